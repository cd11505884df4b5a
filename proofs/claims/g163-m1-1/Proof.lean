import JvmDerived
import JvmDerived.Pilot.@@N@@Statement
import JvmDerived.Pilot.@@N@@Code
set_option linter.unusedVariables false
set_option linter.unusedSimpArgs false
namespace Jvm.RoadKit
open Sem ClassFile Op Lib Jvm.Stand Jvm.Free Jvm.LawKit
section New
variable {p : Program} {l : Launch} {e : Env} {R : Room} {s : State} {m : MethodId} {args : Array Value} {below : List Frame} {meth : Method} {c : Code} {T : State} {locs : List Loc} {cells slots : Nat}
theorem retI (X : Stand p l e R s m args below meth c T locs cells slots) (hx : p.tables.exec = Jvm.exec) {pc : Nat} {Ls : Array Slot} {z : Int32} {rest : List Value} (hret : meth.sig.returnType = some .int) (hd : decode c.code pc = .ok (.ireturn, 1)) {fs : List Frame}
    (hl : ∀ (f : JFrame) (acts : List Action), f.method = m → f.locked = none → f.entered = [] → (doReturn e (T.setTop f) acts (some (.int z))).1 = T.setFrames fs) : Steps p.tables e below (T.setTop (mkF m pc Ls (.int z :: rest))) (T.setFrames fs) := by
  have hm' : T.vm.method? m = some meth := X.method'
  have hn : narrow .int (.int z) = .int z := rfl
  show Steps p.tables e below (T.setTop { method := m, pc := pc, locals := Ls, stack := _ :: rest, locked := none }) _
  jvm_step X.here [X.here.top, hx, hd, hm', hret, hn]
  first | (intro acts; rw [hl _ acts rfl rfl rfl]) | rw [hl _ _ rfl rfl rfl]
  exact Steps.refl _
end New
end Jvm.RoadKit
namespace Jvm.Pilot.@@N@@
open Jvm Jvm.ClassFile Sem Op Lib Jvm.Free Jvm.Stand Jvm.LawKit Jvm.RoadKit Bundle Jvm.Pilot.@@N@@.Jvm.D
section OwnKit
/-- the rest of a body ends well: from the state U on it comes to its end, what it returns and leaves is as Q says -/
def Done (p : Program) (e : Env) (below : List Frame) (s : State) (Q : Option Value → Heap → List Loc → Prop) (C S : Nat) (U : State) : Prop :=
  ∃ s₂ o, Steps p.tables e below U s₂ ∧ s₂.status = .running ∧ Ended s₂ below o ∧ ∃ v L, o = .returned v ∧ Q v s₂.heap L ∧ FrameEnd s o s₂ L C S
variable {p : Program} {l : Launch} {e : Env} {R : Room} {s : State} {m : MethodId} {args : Array Value} {below : List Frame} {meth : Method} {c : Code} {T U U' : State} {locs : List Loc} {cells slots C S : Nat} {Q : Option Value → Heap → List Loc → Prop}
theorem Done.step (h : ∀ t, Steps p.tables e below U' t → Steps p.tables e below U t) (d : Done p e below s Q C S U') : Done p e below s Q C S U := by
  obtain ⟨s₂, o, h1, r⟩ := d
  exact ⟨s₂, o, h _ h1, r⟩
theorem Done.far (h : Steps p.tables e below U U') (d : Done p e below s Q C S U') : Done p e below s Q C S U := by
  obtain ⟨s₂, o, h1, r⟩ := d
  exact ⟨s₂, o, h.trans h1, r⟩
theorem Done.mono {Q' : Option Value → Heap → List Loc → Prop} (d : Done p e below s Q C S U) (h : ∀ v h L, Q v h L → Q' v h L) : Done p e below s Q' C S U := by
  obtain ⟨s₂, o, h1, h2, h3, v, L, h4, h5, h6⟩ := d
  exact ⟨s₂, o, h1, h2, h3, v, L, h4, h _ _ _ h5, h6⟩
theorem Done.int (X : Stand p l e R s m args below meth c T locs cells slots) (hx : p.tables.exec = Jvm.exec) (hlk : meth.locks = false) (hret : meth.sig.returnType = some .int) {pc : Nat} {Ls : Array Slot} {z : Int32} {rest : List Value} (hd : decode c.code pc = .ok (.ireturn, 1)) (hc : cells ≤ C) (hs : slots ≤ S)
    (hq : Q (some (.int z)) T.heap locs) : Done p e below s Q C S (T.setTop (mkF m pc Ls (.int z :: rest))) := by
  obtain ⟨fs, hr, hrun, hended, hW, hsame⟩ := X.leave (v := some (.int z)) (fun h => by rw [hret] at h; cases h)
  exact ⟨_, _, retI X hx hret hd hr, hrun, hended, _, _, rfl, hq, ⟨_, rfl⟩, hW, hsame.mono hc hs⟩
theorem Done.narr (X : Stand p l e R s m args below meth c T locs cells slots) (hx : p.tables.exec = Jvm.exec) (hlk : meth.locks = false) {t : FieldType} (hret : meth.sig.returnType = some t) (ht : t = .boolean ∨ t = .byte ∨ t = .char ∨ t = .short) {pc : Nat} {Ls : Array Slot} {z : Int32} {rest : List Value} (hd : decode c.code pc = .ok (.ireturn, 1)) (hc : cells ≤ C) (hs : slots ≤ S)
    (hq : Q (some (.int (nar t z))) T.heap locs) : Done p e below s Q C S (T.setTop (mkF m pc Ls (.int z :: rest))) := by
  obtain ⟨fs, hr, hrun, hended, hW, hsame⟩ := X.leave (v := some (.int (nar t z))) (fun h => by rw [hret] at h; cases h)
  exact ⟨_, _, retN X hx hret ht hd hr, hrun, hended, _, _, rfl, hq, ⟨_, rfl⟩, hW, hsame.mono hc hs⟩
theorem Done.long (X : Stand p l e R s m args below meth c T locs cells slots) (hx : p.tables.exec = Jvm.exec) (hlk : meth.locks = false) (hret : meth.sig.returnType = some .long) {pc : Nat} {Ls : Array Slot} {z : Int64} {rest : List Value} (hd : decode c.code pc = .ok (.lreturn, 1)) (hc : cells ≤ C) (hs : slots ≤ S)
    (hq : Q (some (.long z)) T.heap locs) : Done p e below s Q C S (T.setTop (mkF m pc Ls (.long z :: rest))) := by
  obtain ⟨fs, hr, hrun, hended, hW, hsame⟩ := X.leave (v := some (.long z)) (fun h => by rw [hret] at h; cases h)
  exact ⟨_, _, retOut X hx hret rfl (Or.inr (Or.inl ⟨rfl, rfl, z, rfl⟩)) hd hr, hrun, hended, _, _, rfl, hq, ⟨_, rfl⟩, hW, hsame.mono hc hs⟩
theorem Done.ref (X : Stand p l e R s m args below meth c T locs cells slots) (hx : p.tables.exec = Jvm.exec) (hlk : meth.locks = false) {t : FieldType} (hret : meth.sig.returnType = some t) (ht : t.isReference = true) {pc : Nat} {Ls : Array Slot} {w : Value} {rest : List Value} (hw : w.isRef = true) (hn : narrow t w = w) (hd : decode c.code pc = .ok (.areturn, 1)) (hc : cells ≤ C) (hs : slots ≤ S)
    (hq : Q (some w) T.heap locs) : Done p e below s Q C S (T.setTop (mkF m pc Ls (w :: rest))) := by
  obtain ⟨fs, hr, hrun, hended, hW, hsame⟩ := X.leave (v := some w) (fun h => by rw [hret] at h; cases h)
  exact ⟨_, _, retOut X hx hret hn (Or.inr (Or.inr (Or.inr (Or.inr ⟨rfl, ht, hw⟩)))) hd hr, hrun, hended, _, _, rfl, hq, ⟨_, rfl⟩, hW, hsame.mono hc hs⟩
theorem Done.void (X : Stand p l e R s m args below meth c T locs cells slots) (hx : p.tables.exec = Jvm.exec) (hlk : meth.locks = false) (hret : meth.sig.returnType = none) {pc : Nat} {Ls : Array Slot} (hd : decode c.code pc = .ok (.return_, 1)) (hc : cells ≤ C) (hs : slots ≤ S)
    (hq : Q none T.heap locs) : Done p e below s Q C S (T.setTop (mkF m pc Ls [])) := by
  obtain ⟨fs, hr, hrun, hended, hW, hsame⟩ := X.leave (v := none) (fun _ => rfl)
  exact ⟨_, _, X.returnOut hx hret hd hr, hrun, hended, _, _, rfl, hq, ⟨_, rfl⟩, hW, hsame.mono hc hs⟩
variable {Z : State} {h h' h0 : Heap} {a b : Addr} {ty : FieldType} {vs : List Value} {sl : Nat} {v x : Value} {ws : List Addr} {j : Int32} {g : JFrame} {rest : List Value}
/-- an array whose slots are just the list vs -/
def Ax (Z : State) (h : Heap) (a : Addr) (ty : FieldType) (vs : List Value) : Prop := ∃ c : Cell, Arr Z h a c ty ∧ c.slots = vs.toArray
theorem Ax.lt (F : Ax Z h a ty vs) : a < h.size := by obtain ⟨c, A, -⟩ := F; exact A.lt
theorem Ax.ext (F : Ax Z h a ty vs) (E : Ext h h') : Ax Z h' a ty vs := by obtain ⟨c, A, r⟩ := F; exact ⟨c, A.ext E, r⟩
theorem Ax.other (F : Ax Z h b ty vs) (W : Wr h h' a sl v) (q : b ≠ a) : Ax Z h' b ty vs := by obtain ⟨c, A, r⟩ := F; exact ⟨c, A.other W q, r⟩
theorem Ax.keep (F : Ax Z h a ty vs) (K : Keep h h' ws) (q : a ∉ ws) : Ax Z h' a ty vs := by obtain ⟨c, A, r⟩ := F; exact ⟨c, ⟨K.2.1 a c A.1 q, A.2⟩, r⟩
theorem own_stakeep {C n d : String} (F : Sta Z h C n d v) (K : Keep h h' ws) (q : ∀ y ∈ ws, ∃ cell : Cell, h[y]? = some cell ∧ cell.vm.isStatics = false) : Sta Z h' C n d v := by
  obtain ⟨cf, i, k, f, st, cell, h1, h2, h3, h4, h5, h6, h7⟩ := F
  refine ⟨cf, i, k, f, st, cell, h1, h2, h3, h4, K.2.1 st cell h5 (fun z => ?_), h6, h7⟩
  obtain ⟨c', g1, g2⟩ := q st z
  cases h5.symm.trans g1; rw [g2] at h6; cases h6
theorem own_unst {C : String} (F : Exa Z h a C) : ∃ cell : Cell, h[a]? = some cell ∧ cell.vm.isStatics = false := by
  obtain ⟨cell, k, h1, -, -, h4, -⟩ := F; exact ⟨cell, h1, h4⟩
theorem fld_long {t : Term} {D n d : String} {k : Int64} {y : Addr} {av : Array Value} (hh : (Jvm.Cond.eq (Term.field t D n d) (Term.long k)).value av Z none Z [] = some true) (ht : t.eval av Z none [] Z = some (.ref y)) : Fld Z Z.heap y D n d (.long k) := by
  obtain ⟨u, w, e1, e2, k1, k2⟩ := cmp_v (Or.inl hh)
  have e3 : (Term.long k).eval av Z none [] Z = some (.long k) := rfl
  rw [e3] at e2; cases e2
  obtain ⟨z, rfl⟩ := k2
  have q := gotT (eq_L e1 e3) hh
  subst q
  rw [fld_at ht] at e1
  exact Fld.start e1
theorem fld_int {t : Term} {D n d : String} {k : Int32} {y : Addr} {av : Array Value} (hh : (Jvm.Cond.eq (Term.field t D n d) (Term.int k)).value av Z none Z [] = some true) (ht : t.eval av Z none [] Z = some (.ref y)) : Fld Z Z.heap y D n d (.int k) := by
  obtain ⟨u, w, e1, e2, k1, k2⟩ := cmp_v (Or.inl hh)
  have e3 : (Term.int k).eval av Z none [] Z = some (.int k) := rfl
  rw [e3] at e2; cases e2
  obtain ⟨z, rfl⟩ := k2
  have q : z = k := by simpa [Jvm.Cond.value, e1, e3] using hh
  subst q
  rw [fld_at ht] at e1
  exact Fld.start e1
theorem Ax.set (F : Ax Z h a ty vs) (W : Wr h h' a sl v) : Ax Z h' a ty (vs.set sl v) := by
  obtain ⟨c, A, r⟩ := F
  exact ⟨_, A.same W, by rw [show (c.setSlot sl v).slots = c.slots.setIfInBounds sl v from rfl, r, List.setIfInBounds_toArray]⟩
theorem Ax.new {k : ClassId} {n : Int32} {i : Nat} (A : Arr Z h a (newA k ty n) ty) (hi : n.toNatClampNeg = i) : Ax Z h a ty (List.replicate i (defaultValue ty)) :=
  ⟨_, A, by rw [show (newA k ty n).slots = Array.replicate n.toNatClampNeg (defaultValue ty) from rfl, hi, List.toArray_replicate]⟩
theorem Ax.size {c : Cell} (r : c.slots = vs.toArray) : c.slots.size = vs.length := by rw [r, List.size_toArray]
theorem Ax.inb {c : Cell} (r : c.slots = vs.toArray) (hj : ¬ j < 0) (hl : j.toNatClampNeg < vs.length) : ¬ (j < 0 ∨ c.slots.size ≤ j.toNatClampNeg) := fun q => q.elim hj fun u => by
  rw [Ax.size r] at u; exact absurd hl (Nat.not_lt.mpr u)
theorem Ax.get {c : Cell} (r : c.slots = vs.toArray) (hat : vs[j.toNatClampNeg]? = some x) : c.slots[j.toNatClampNeg]? = some x := by rw [r, List.getElem?_toArray]; exact hat
theorem Ax.lens (hat : vs[j.toNatClampNeg]? = some x) : j.toNatClampNeg < vs.length := (List.getElem?_eq_some_iff.mp hat).1
theorem ldI (X : Stand p l e R s m args below meth c T locs cells slots) (hx : p.tables.exec = Jvm.exec) (hZ : Z.Warmed39 s.vm) (eT : T.heap = h) (F : Ax Z h a .int vs) (hj : ¬ j < 0) (hat : vs[j.toNatClampNeg]? = some x) (hg : g.method = m) (hs : g.stack = .int j :: .ref a :: rest) (hd : decode c.code g.pc = .ok (.iaload, 1)) :
    ∀ target, Steps p.tables e below (T.setTop { g with pc := g.pc + 1, stack := x :: rest }) target → Steps p.tables e below (T.setTop g) target := by
  obtain ⟨cl, A, r⟩ := F
  exact X.iaload hx (by rw [eT]; exact A.1) (State.isArrayOf_alike hZ.alike A.2.1) A.2.2 (Ax.inb r hj (Ax.lens hat)) (Ax.get r hat) hg hs hd
theorem ldJ (X : Stand p l e R s m args below meth c T locs cells slots) (hx : p.tables.exec = Jvm.exec) (hZ : Z.Warmed39 s.vm) (eT : T.heap = h) (F : Ax Z h a .long vs) (hj : ¬ j < 0) (hat : vs[j.toNatClampNeg]? = some x) (hg : g.method = m) (hs : g.stack = .int j :: .ref a :: rest) (hd : decode c.code g.pc = .ok (.laload, 1)) :
    ∀ target, Steps p.tables e below (T.setTop { g with pc := g.pc + 1, stack := x :: rest }) target → Steps p.tables e below (T.setTop g) target := by
  obtain ⟨cl, A, r⟩ := F
  exact X.laload hx (by rw [eT]; exact A.1) (State.isArrayOf_alike hZ.alike A.2.1) A.2.2 (Ax.inb r hj (Ax.lens hat)) (Ax.get r hat) hg hs hd
theorem ldB (X : Stand p l e R s m args below meth c T locs cells slots) (hx : p.tables.exec = Jvm.exec) (hZ : Z.Warmed39 s.vm) (eT : T.heap = h) (F : Ax Z h a .byte vs) (hj : ¬ j < 0) (hat : vs[j.toNatClampNeg]? = some x) (hg : g.method = m) (hs : g.stack = .int j :: .ref a :: rest) (hd : decode c.code g.pc = .ok (.baload, 1)) :
    ∀ target, Steps p.tables e below (T.setTop { g with pc := g.pc + 1, stack := x :: rest }) target → Steps p.tables e below (T.setTop g) target := by
  obtain ⟨cl, A, r⟩ := F
  exact X.baloadBytes hx (by rw [eT]; exact A.1) (State.isArrayOf_alike hZ.alike A.2.1) A.2.2 (Ax.inb r hj (Ax.lens hat)) (Ax.get r hat) hg hs hd
theorem ldZ (X : Stand p l e R s m args below meth c T locs cells slots) (hx : p.tables.exec = Jvm.exec) (hZ : Z.Warmed39 s.vm) (eT : T.heap = h) (F : Ax Z h a .boolean vs) (hj : ¬ j < 0) (hat : vs[j.toNatClampNeg]? = some x) (hg : g.method = m) (hs : g.stack = .int j :: .ref a :: rest) (hd : decode c.code g.pc = .ok (.baload, 1)) :
    ∀ target, Steps p.tables e below (T.setTop { g with pc := g.pc + 1, stack := x :: rest }) target → Steps p.tables e below (T.setTop g) target := by
  obtain ⟨cl, A, r⟩ := F
  exact X.baloadBooleans hx (by rw [eT]; exact A.1) (State.isArrayOf_alike hZ.alike A.2.1) A.2.2 (Ax.inb r hj (Ax.lens hat)) (Ax.get r hat) hg hs hd
theorem lenA (X : Stand p l e R s m args below meth c T locs cells slots) (hx : p.tables.exec = Jvm.exec) (hZ : Z.Warmed39 s.vm) (eT : T.heap = h) (F : Ax Z h a ty vs) {n : Int32} (hn : vs.length.toInt32 = n) (hg : g.method = m) (hs : g.stack = .ref a :: rest) (hd : decode c.code g.pc = .ok (.arraylength, 1)) :
    ∀ target, Steps p.tables e below (T.setTop { g with pc := g.pc + 1, stack := .int n :: rest }) target → Steps p.tables e below (T.setTop g) target := by
  obtain ⟨cl, A, r⟩ := F
  intro target k
  refine X.arraylength hx (by rw [eT]; exact A.1) (State.isArrayOf_alike hZ.alike A.2.1) hg hs hd target ?_
  rw [Ax.size r, hn]; exact k
theorem stoI (X : Stand p l e R s m args below meth c T locs cells slots) (hx : p.tables.exec = Jvm.exec) (hZ : Z.Warmed39 s.vm) (eT : T.heap = h) (F : Ax Z h a .int vs) {y : Int32} (hj : ¬ j < 0) {i : Nat} (hi : j.toNatClampNeg = i) (hl : i < vs.length) (hg : g.method = m) (hs : g.stack = .int y :: .int j :: .ref a :: rest) (hd : decode c.code g.pc = .ok (.iastore, 1)) :
    ∃ T' h', Stand p l e R s m args below meth c T' (locs ++ [⟨a, j.toNatClampNeg⟩]) cells slots ∧ T'.heap = h' ∧ Wr h h' a j.toNatClampNeg (.int y) ∧ Ax Z h' a .int (vs.set i (.int y)) ∧ ∀ target, Steps p.tables e below (T'.setTop { g with pc := g.pc + 1, stack := rest }) target → Steps p.tables e below (T.setTop g) target := by
  obtain ⟨cl, A, r⟩ := F
  obtain ⟨T', h', X', e', W, st⟩ := stI X hx hZ eT A (Ax.inb r hj (by rw [hi]; exact hl)) hg hs hd
  exact ⟨T', h', X', e', W, hi ▸ Ax.set ⟨cl, A, r⟩ W, st⟩
theorem stoJ (X : Stand p l e R s m args below meth c T locs cells slots) (hx : p.tables.exec = Jvm.exec) (hZ : Z.Warmed39 s.vm) (eT : T.heap = h) (F : Ax Z h a .long vs) {y : Int64} (hj : ¬ j < 0) {i : Nat} (hi : j.toNatClampNeg = i) (hl : i < vs.length) (hg : g.method = m) (hs : g.stack = .long y :: .int j :: .ref a :: rest) (hd : decode c.code g.pc = .ok (.lastore, 1)) :
    ∃ T' h', Stand p l e R s m args below meth c T' (locs ++ [⟨a, j.toNatClampNeg⟩]) cells slots ∧ T'.heap = h' ∧ Wr h h' a j.toNatClampNeg (.long y) ∧ Ax Z h' a .long (vs.set i (.long y)) ∧ ∀ target, Steps p.tables e below (T'.setTop { g with pc := g.pc + 1, stack := rest }) target → Steps p.tables e below (T.setTop g) target := by
  obtain ⟨cl, A, r⟩ := F
  obtain ⟨T', h', X', e', W, st⟩ := stJ X hx hZ eT A (Ax.inb r hj (by rw [hi]; exact hl)) hg hs hd
  exact ⟨T', h', X', e', W, hi ▸ Ax.set ⟨cl, A, r⟩ W, st⟩
theorem stoB (X : Stand p l e R s m args below meth c T locs cells slots) (hx : p.tables.exec = Jvm.exec) (hZ : Z.Warmed39 s.vm) (eT : T.heap = h) (F : Ax Z h a .byte vs) {y : Int32} (hj : ¬ j < 0) {i : Nat} (hi : j.toNatClampNeg = i) (hl : i < vs.length) (hg : g.method = m) (hs : g.stack = .int y :: .int j :: .ref a :: rest) (hd : decode c.code g.pc = .ok (.bastore, 1)) :
    ∃ T' h', Stand p l e R s m args below meth c T' (locs ++ [⟨a, j.toNatClampNeg⟩]) cells slots ∧ T'.heap = h' ∧ Wr h h' a j.toNatClampNeg (.int (nar .byte y)) ∧ Ax Z h' a .byte (vs.set i (.int (nar .byte y))) ∧ ∀ target, Steps p.tables e below (T'.setTop { g with pc := g.pc + 1, stack := rest }) target → Steps p.tables e below (T.setTop g) target := by
  obtain ⟨cl, A, r⟩ := F
  obtain ⟨T', h', X', e', W, st⟩ := stB X hx hZ eT A (Ax.inb r hj (by rw [hi]; exact hl)) hg hs hd
  exact ⟨T', h', X', e', W, hi ▸ Ax.set ⟨cl, A, r⟩ W, st⟩
theorem stoZ (X : Stand p l e R s m args below meth c T locs cells slots) (hx : p.tables.exec = Jvm.exec) (hZ : Z.Warmed39 s.vm) (eT : T.heap = h) (F : Ax Z h a .boolean vs) {y : Int32} (hj : ¬ j < 0) {i : Nat} (hi : j.toNatClampNeg = i) (hl : i < vs.length) (hg : g.method = m) (hs : g.stack = .int y :: .int j :: .ref a :: rest) (hd : decode c.code g.pc = .ok (.bastore, 1)) :
    ∃ T' h', Stand p l e R s m args below meth c T' (locs ++ [⟨a, j.toNatClampNeg⟩]) cells slots ∧ T'.heap = h' ∧ Wr h h' a j.toNatClampNeg (.int (nar .boolean y)) ∧ Ax Z h' a .boolean (vs.set i (.int (nar .boolean y))) ∧ ∀ target, Steps p.tables e below (T'.setTop { g with pc := g.pc + 1, stack := rest }) target → Steps p.tables e below (T.setTop g) target := by
  obtain ⟨cl, A, r⟩ := F
  obtain ⟨T', h', X', e', W, st⟩ := stZ X hx hZ eT A (Ax.inb r hj (by rw [hi]; exact hl)) hg hs hd
  exact ⟨T', h', X', e', W, hi ▸ Ax.set ⟨cl, A, r⟩ W, st⟩
theorem cloX (X : Stand p l e R s m args below meth c T locs cells slots) (hx : p.tables.exec = Jvm.exec) (hZ : Z.Warmed39 s.vm) {a0 : Array Value} {own ad : String} {index : Nat} (hown : s.vm.findClass own = some m.cls)
    (w1 : (Cond.methodLink own index ⟨ad, "clone", "()Ljava/lang/Object;"⟩).before a0 Z = true) (w2 : (Cond.sameMethod ad "java/lang/Object" "clone" "()Ljava/lang/Object;").before a0 Z = true) (w3 : (Cond.native ⟨"java/lang/Object", "clone", "()Ljava/lang/Object;"⟩).before a0 Z = true)
    (w4 : (Cond.instanceMethod ⟨"java/lang/Object", "clone", "()Ljava/lang/Object;"⟩).before a0 Z = true) (w5 : (Cond.selects ad ⟨ad, "clone", "()Ljava/lang/Object;"⟩ ⟨"java/lang/Object", "clone", "()Ljava/lang/Object;"⟩).before a0 Z = true) (w6 : (Cond.castable ad "java/lang/Cloneable").before a0 Z = true)
    (eT : T.heap = h) (F : Ax Z h a ty vs) (E : Exa Z h a ad) (G : ∀ v ∈ vs, fits ty v = true) (hg : g.method = m) (hsize : g.locals.size = c.maxLocals) (hs : g.stack = .ref a :: rest) (hd : decode c.code g.pc = .ok (.invokevirtual index, 3))
    (hf : 1 ≤ R.frames) {W cap : Nat} (hW : 2 * g.monitorRoom + (rest.map fun v => v.category).sum ≤ W) (hl : W + 14 ≤ R.locals) (hcap : vs.length ≤ cap) (hc : cells + 1 ≤ R.cells) (hsl : slots + cap ≤ R.slots) :
    ∃ T' h', Stand p l e R s m args below meth c T' locs (cells + 1) (slots + cap) ∧ T'.heap = h' ∧ Ext h h' ∧ Ax Z h' h.size ty vs ∧ Exa Z h' h.size ad ∧
      ∀ target, Steps p.tables e below (T'.setTop { g with pc := g.pc + 3, stack := .ref h.size :: rest }) target → Steps p.tables e below (T.setTop g) target := by
  obtain ⟨cl, A, r⟩ := F
  have FC : FitC Z cl := fitC_of A fun i hi v hv => by
    rw [r, List.getElem?_toArray] at hv
    exact G v (List.mem_of_getElem? hv)
  obtain ⟨T', h', X', e', ex, A', E', st⟩ := cloneA X hx hZ hown w1 w2 w3 w4 w5 w6 eT A E FC hg hsize hs hd hf hW hl (by rw [Ax.size r]; exact hcap) hc hsl
  exact ⟨T', h', X', e', ex, ⟨cloneOf cl, A', r⟩, E', st⟩
end OwnKit
theorem pd_0 : parseMethodDescriptor "(Ljava/lang/String;ZI[I)V" = some ⟨[(.object "java/lang/String"), .boolean, .int, (.array .int)], none⟩ := by decide +kernel
theorem pd_1 : parseMethodDescriptor "(Lcom/example/ruled_ledger/ruledledger/model/CatchHandler;)Z" = some ⟨[(.object "com/example/ruled_ledger/ruledledger/model/CatchHandler")], some .boolean⟩ := by decide +kernel
theorem pd_2 : parseMethodDescriptor "(JI)I" = some ⟨[.long, .int], some .int⟩ := by decide +kernel
/-- as Done, where a String constant may have been interned meanwhile -/
def DoneW (p : Program) (e : Env) (below : List Frame) (s : State) (Q : Option Value → Heap → List Loc → Prop) (C S : Nat) (U : State) : Prop :=
  ∃ s₂ o, Steps p.tables e below U s₂ ∧ s₂.status = .running ∧ Ended s₂ below o ∧ ∃ v L, o = .returned v ∧ Q v s₂.heap L ∧ ReturnedEndW s o s₂ L C S
theorem DoneW.step {p : Program} {e : Env} {s U U' : State} {below : List Frame} {C S : Nat} {Q : Option Value → Heap → List Loc → Prop} (h : ∀ t, Steps p.tables e below U' t → Steps p.tables e below U t) (d : DoneW p e below s Q C S U') : DoneW p e below s Q C S U := by
  obtain ⟨s₂, o, h1, r⟩ := d
  exact ⟨s₂, o, h _ h1, r⟩
theorem DoneW.far {p : Program} {e : Env} {s U U' : State} {below : List Frame} {C S : Nat} {Q : Option Value → Heap → List Loc → Prop} (h : Steps p.tables e below U U') (d : DoneW p e below s Q C S U') : DoneW p e below s Q C S U := by
  obtain ⟨s₂, o, h1, r⟩ := d
  exact ⟨s₂, o, h.trans h1, r⟩
def Sz (k : Nat) (h : Heap) : Prop := k ≤ h.size
theorem Sz.ext {k : Nat} {h h' : Heap} (S : Sz k h) (E : Ext h h') : Sz k h' := Nat.le_trans S E.1
theorem Sz.keep {k : Nat} {h h' : Heap} {ws : List Addr} (S : Sz k h) (K : Keep h h' ws) : Sz k h' := Nat.le_trans S K.1
theorem Sz.wr {k : Nat} {h h' : Heap} {a : Addr} {sl : Nat} {v : Value} (S : Sz k h) (W : Wr h h' a sl v) : Sz k h' := Nat.le_trans S (Keep.of_wr W).1
theorem DoneW.narr {p : Program} {l : Launch} {e : Env} {R : Room} {s : State} {m : MethodId} {args : Array Value} {below : List Frame} {meth : Method} {c : Code} {T : State} {locs : List Loc} {cells slots C S : Nat} {Q : Option Value → Heap → List Loc → Prop} {vm₁ : Vm} {h : Heap}
    (X : Stand p l e R (s.setVm vm₁) m args below meth c T locs cells slots) {k : Nat} (hS : s.Since vm₁ k) (eT : T.heap = h) (hn : Sz k h) (hx : p.tables.exec = Jvm.exec) (hlk : meth.locks = false) {t : FieldType} (hret : meth.sig.returnType = some t) (ht : t = .boolean ∨ t = .byte ∨ t = .char ∨ t = .short) {pc : Nat} {Ls : Array Slot} {z : Int32} {rest : List Value} (hd : decode c.code pc = .ok (.ireturn, 1)) (hc : cells ≤ C) (hs : slots ≤ S)
    (hq : Q (some (.int (nar t z))) T.heap locs) : DoneW p e below s Q C S (T.setTop (mkF m pc Ls (.int z :: rest))) := by
  subst eT
  obtain ⟨fs, hr, hrun, hended, hW⟩ := X.leaveW hS hn (v := some (.int (nar t z))) (fun h => by rw [hret] at h; cases h)
  exact ⟨_, _, retN X hx hret ht hd hr, hrun, hended, _, _, rfl, hq, hW.1, hW.2.1, hW.2.2.1, hW.2.2.2.mono hc hs⟩
theorem own_wS {a0 : Array Value} {Z : State} (hw : ∀ d ∈ tables_1, d.before a0 Z = true) : ∀ a ∈ Bundle.stringAtoms, a.before a0 Z = true := by
  intro a ha
  simp only [Bundle.stringAtoms, List.mem_cons, List.not_mem_nil, or_false] at ha
  rcases ha with rfl | rfl | rfl | rfl | rfl | rfl | rfl
  · exact hw _ (List.mem_of_getElem? (i := 11) rfl)
  · exact hw _ (List.mem_of_getElem? (i := 12) rfl)
  · exact hw _ (List.mem_of_getElem? (i := 13) rfl)
  · exact hw _ (List.mem_of_getElem? (i := 14) rfl)
  · exact hw _ (List.mem_of_getElem? (i := 15) rfl)
  · exact hw _ (List.mem_of_getElem? (i := 16) rfl)
  · exact hw _ (List.mem_of_getElem? (i := 17) rfl)
theorem d1_0 : decode method_2_code 0 = .ok (.lload_n 0, 1) := by decide +kernel
theorem d1_1 : decode method_2_code 1 = .ok (.iload_n 2, 1) := by decide +kernel
theorem d1_2 : decode method_2_code 2 = .ok (.lushr, 1) := by decide +kernel
theorem d1_3 : decode method_2_code 3 = .ok (.ldc2_w 7, 3) := by decide +kernel
theorem d1_6 : decode method_2_code 6 = .ok (.land, 1) := by decide +kernel
theorem d1_7 : decode method_2_code 7 = .ok (.l2i, 1) := by decide +kernel
theorem d1_8 : decode method_2_code 8 = .ok (.iconst 1, 1) := by decide +kernel
theorem d1_9 : decode method_2_code 9 = .ok (.iadd, 1) := by decide +kernel
theorem d1_10 : decode method_2_code 10 = .ok (.ireturn, 1) := by decide +kernel
def F1 (q1 : Int64) (p2 : Int32) : Int32 := (((((q1.toUInt64 >>> (p2 &&& 0x3f).toInt64.toUInt64).toInt64) &&& (511 : Int64))).toInt32 + (1 : Int32))
theorem pn_1 : plainName "com/example/ruled_ledger/ruledledger/model/CatchHandlerCoversCodeOfPinLaw" = true := by first | (simp [plainName, overriddenIn]; done) | decide +kernel
theorem ef_1 (m : MethodId) (q1 : Int64) (p2 : Int32) : entryFrame m #[(.long q1), (.int p2)] 3 = mkF m 0 #[.val (.long q1), .second, .val (.int p2)] [] := by first | (simp [entryFrame, mkF, argsToLocals, Value.category]; done) | rfl
def Qrm1 (Z : State) (q1 : Int64) (p2 : Int32) (h0 : Heap) (n0 : Nat) : Option Value → Heap → List Loc → Prop := fun v h L => v = some (.int (F1 q1 p2)) ∧ Fr n0 L ∧ h = h0
set_option maxRecDepth 65536 in
set_option maxHeartbeats 40000000 in
theorem rm1 (l : Launch) (Z : State) (a0 : Array Value) (hw : ∀ d ∈ tables_1, d.before a0 Z = true) (ws : List Jvm.Cond) (q1 : Int64) (p2 : Int32) (h0 : Heap) (n0 : Nat) (Z0 : n0 ≤ h0.size) :
    MetFree l (⟨"com/example/ruled_ledger/ruledledger/model/CatchHandlerCoversCodeOfPinLaw", "f", "(JI)I"⟩ : MethodName) (head1 (Jvm.Cond.code (⟨"com/example/ruled_ledger/ruledledger/model/CatchHandlerCoversCodeOfPinLaw", "f", "(JI)I"⟩ : MethodName) method_2_code 3 (some .int) :: ws) ({ frames := 0, cells := 0, slots := 0, locals := 0 } : Room)) (fun a U => a = #[(.long q1), (.int p2)] ∧ Z.Warmed39 U.vm ∧ U.heap = h0) (fun _ _ _ _ _ => True) (fun _ U o U' => ∃ v L, o = .returned v ∧ Qrm1 Z q1 p2 h0 n0 v U'.heap L ∧ FrameEnd U o U' L ({ frames := 0, cells := 0, slots := 0, locals := 0 } : Room).cells ({ frames := 0, cells := 0, slots := 0, locals := 0 } : Room).slots) := by
  refine MetFree.of_bodySF (plainFor_of_name pn_1) hisR ?_
  intro p e s m args below meth c s₁ Bd hml0 hP hK
  obtain ⟨rfl, hZ, hhp⟩ := hP
  have hx := Bd.exec
  have hby := Bd.bytes
  have hml : c.maxLocals = 3 := hml0
  have hown : s.vm.findClass "com/example/ruled_ledger/ruledledger/model/CatchHandlerCoversCodeOfPinLaw" = some m.cls := findClass_of_methodNamed Bd.named
  have hnm := (name_of_methodNamed Bd.named Bd.method).1
  have hlk : meth.locks = false := BodyLoose.notSynchronized Bd
  have hret := Bd.returns
  have X0 : Stand p l e ({ frames := 0, cells := 0, slots := 0, locals := 0 } : Room) s m #[(.long q1), (.int p2)] below meth c s₁ [] 0 0 := Stand.of_body Bd
  have e0 : s₁.heap = h0 := by rw [← hhp, Bd.state]; rfl
  have N0 := Fr.nil n0
  show Done p e below s (Qrm1 Z q1 p2 h0 n0) ({ frames := 0, cells := 0, slots := 0, locals := 0 } : Room).cells ({ frames := 0, cells := 0, slots := 0, locals := 0 } : Room).slots (s₁.setTop (entryFrame m #[(.long q1), (.int p2)] 3))
  refine Done.step (fun t k => castTop (ef_1 m q1 p2) k) ?_
  show Done p e below s _ _ _ (s₁.setTop (mkF m 0 #[.val (.long q1), .second, .val (.int p2)] []))
  refine Done.step (fun t k => XS.lloadN X0.here hx rfl (hb hby d1_0) rfl k) ?_
  show Done p e below s _ _ _ (s₁.setTop (mkF m 1 #[.val (.long q1), .second, .val (.int p2)] [(.long q1)]))
  refine Done.step (fun t k => XS.iloadN X0.here hx rfl (hb hby d1_1) rfl k) ?_
  show Done p e below s _ _ _ (s₁.setTop (mkF m 2 #[.val (.long q1), .second, .val (.int p2)] [(.int p2), (.long q1)]))
  refine Done.step (fun t k => XS.lushr X0.here hx rfl (hb hby d1_2) rfl k) ?_
  show Done p e below s _ _ _ (s₁.setTop (mkF m 3 #[.val (.long q1), .second, .val (.int p2)] [(.long ((q1.toUInt64 >>> (p2 &&& 0x3f).toInt64.toUInt64).toInt64))]))
  refine Done.step (X0.ldc2Long hx hown (mvT hZ (hw _ (List.mem_of_getElem? (i := 5) rfl))) (g := (mkF m 3 #[.val (.long q1), .second, .val (.int p2)] [(.long ((q1.toUInt64 >>> (p2 &&& 0x3f).toInt64.toUInt64).toInt64))])) rfl (hb hby d1_3)) ?_
  show Done p e below s _ _ _ (s₁.setTop (mkF m 6 #[.val (.long q1), .second, .val (.int p2)] [(.long (511 : Int64)), (.long ((q1.toUInt64 >>> (p2 &&& 0x3f).toInt64.toUInt64).toInt64))]))
  refine Done.step (fun t k => XS.land X0.here hx rfl (hb hby d1_6) rfl k) ?_
  show Done p e below s _ _ _ (s₁.setTop (mkF m 7 #[.val (.long q1), .second, .val (.int p2)] [(.long (((q1.toUInt64 >>> (p2 &&& 0x3f).toInt64.toUInt64).toInt64) &&& (511 : Int64)))]))
  refine Done.step (fun t k => XS.l2i X0.here hx rfl (hb hby d1_7) rfl k) ?_
  show Done p e below s _ _ _ (s₁.setTop (mkF m 8 #[.val (.long q1), .second, .val (.int p2)] [(.int ((((q1.toUInt64 >>> (p2 &&& 0x3f).toInt64.toUInt64).toInt64) &&& (511 : Int64))).toInt32)]))
  refine Done.step (fun t k => XS.iconst X0.here hx rfl (hb hby d1_8) k) ?_
  show Done p e below s _ _ _ (s₁.setTop (mkF m 9 #[.val (.long q1), .second, .val (.int p2)] [(.int (1 : Int32)), (.int ((((q1.toUInt64 >>> (p2 &&& 0x3f).toInt64.toUInt64).toInt64) &&& (511 : Int64))).toInt32)]))
  refine Done.step (fun t k => XS.iadd X0.here hx rfl (hb hby d1_9) rfl k) ?_
  show Done p e below s _ _ _ (s₁.setTop (mkF m 10 #[.val (.long q1), .second, .val (.int p2)] [(.int (((((q1.toUInt64 >>> (p2 &&& 0x3f).toInt64.toUInt64).toInt64) &&& (511 : Int64))).toInt32 + (1 : Int32)))]))
  exact Done.int X0 hx hlk hret (hb hby d1_10) (by decide) (by decide) ⟨by rw [show F1 q1 p2 = (((((q1.toUInt64 >>> (p2 &&& 0x3f).toInt64.toUInt64).toInt64) &&& (511 : Int64))).toInt32 + (1 : Int32)) from by unfold F1; rfl] <;> rfl, N0, e0⟩
theorem d2_0 : decode prog_13_method_1_code 0 = .ok (.aload_n 0, 1) := by decide +kernel
theorem d2_1 : decode prog_13_method_1_code 1 = .ok (.invokespecial 1, 3) := by decide +kernel
theorem d2_4 : decode prog_13_method_1_code 4 = .ok (.aload_n 0, 1) := by decide +kernel
theorem d2_5 : decode prog_13_method_1_code 5 = .ok (.aload_n 1, 1) := by decide +kernel
theorem d2_6 : decode prog_13_method_1_code 6 = .ok (.putfield 7, 3) := by decide +kernel
theorem d2_9 : decode prog_13_method_1_code 9 = .ok (.aload_n 0, 1) := by decide +kernel
theorem d2_10 : decode prog_13_method_1_code 10 = .ok (.iload_n 2, 1) := by decide +kernel
theorem d2_11 : decode prog_13_method_1_code 11 = .ok (.putfield 13, 3) := by decide +kernel
theorem d2_14 : decode prog_13_method_1_code 14 = .ok (.aload_n 0, 1) := by decide +kernel
theorem d2_15 : decode prog_13_method_1_code 15 = .ok (.iload_n 3, 1) := by decide +kernel
theorem d2_16 : decode prog_13_method_1_code 16 = .ok (.putfield 17, 3) := by decide +kernel
theorem d2_19 : decode prog_13_method_1_code 19 = .ok (.aload_n 0, 1) := by decide +kernel
theorem d2_20 : decode prog_13_method_1_code 20 = .ok (.aload 4, 2) := by decide +kernel
theorem d2_22 : decode prog_13_method_1_code 22 = .ok (.putfield 21, 3) := by decide +kernel
theorem d2_25 : decode prog_13_method_1_code 25 = .ok (.return_, 1) := by decide +kernel
theorem pn_2 : plainName "com/example/ruled_ledger/ruledledger/model/CatchHandler" = true := by first | (simp [plainName, overriddenIn]; done) | decide +kernel
theorem ef_2 (m : MethodId) (a1 : Addr) (a2 : Addr) (p3 : Int32) (p4 : Int32) (a5 : Addr) : entryFrame m #[(.ref a1), (.ref a2), (.int p3), (.int p4), (.ref a5)] 5 = mkF m 0 #[.val (.ref a1), .val (.ref a2), .val (.int p3), .val (.int p4), .val (.ref a5)] [] := by first | (simp [entryFrame, mkF, argsToLocals, Value.category]; done) | rfl
def Qrm2 (Z : State) (a1 : Addr) (a2 : Addr) (p3 : Int32) (p4 : Int32) (a5 : Addr) (h0 : Heap) (n0 : Nat) : Option Value → Heap → List Loc → Prop := fun v h L => v = none ∧ Fr n0 L ∧ Keep h0 h [a1] ∧ Exa Z h a1 "com/example/ruled_ledger/ruledledger/model/CatchHandler" ∧ Fld Z h a1 "com/example/ruled_ledger/ruledledger/model/CatchHandler" "codeStart" "I" (.int p4) ∧ Fld Z h a1 "com/example/ruled_ledger/ruledledger/model/CatchHandler" "ranges" "[I" (.ref a5)
set_option maxRecDepth 65536 in
set_option maxHeartbeats 40000000 in
theorem rm2 (l : Launch) (Z : State) (a0 : Array Value) (hw : ∀ d ∈ tables_1, d.before a0 Z = true) (ws : List Jvm.Cond) (a1 : Addr) (a2 : Addr) (p3 : Int32) (p4 : Int32) (a5 : Addr) (h0 : Heap) (n0 : Nat) (Z0 : n0 ≤ h0.size) (E1 : Exa Z h0 a1 "com/example/ruled_ledger/ruledledger/model/CatchHandler") (F_caughtClass : Fld Z h0 a1 "com/example/ruled_ledger/ruledledger/model/CatchHandler" "caughtClass" "Ljava/lang/String;" .null) (F_canEndWithoutThrowing : Fld Z h0 a1 "com/example/ruled_ledger/ruledledger/model/CatchHandler" "canEndWithoutThrowing" "Z" (.int (0 : Int32))) (F_codeStart : Fld Z h0 a1 "com/example/ruled_ledger/ruledledger/model/CatchHandler" "codeStart" "I" (.int (0 : Int32))) (F_ranges : Fld Z h0 a1 "com/example/ruled_ledger/ruledledger/model/CatchHandler" "ranges" "[I" .null) (g1 : n0 ≤ a1) :
    MetFree l (⟨"com/example/ruled_ledger/ruledledger/model/CatchHandler", "<init>", "(Ljava/lang/String;ZI[I)V"⟩ : MethodName) (head1 (Jvm.Cond.code (⟨"com/example/ruled_ledger/ruledledger/model/CatchHandler", "<init>", "(Ljava/lang/String;ZI[I)V"⟩ : MethodName) prog_13_method_1_code 5 none :: ws) ({ frames := 1, cells := 0, slots := 0, locals := 12 } : Room)) (fun a U => a = #[(.ref a1), (.ref a2), (.int p3), (.int p4), (.ref a5)] ∧ Z.Warmed39 U.vm ∧ U.heap = h0) (fun _ _ _ _ _ => True) (fun _ U o U' => ∃ v L, o = .returned v ∧ Qrm2 Z a1 a2 p3 p4 a5 h0 n0 v U'.heap L ∧ FrameEnd U o U' L ({ frames := 1, cells := 0, slots := 0, locals := 12 } : Room).cells ({ frames := 1, cells := 0, slots := 0, locals := 12 } : Room).slots) := by
  refine MetFree.of_bodySF (plainFor_of_name pn_2) hisR ?_
  intro p e s m args below meth c s₁ Bd hml0 hP hK
  obtain ⟨rfl, hZ, hhp⟩ := hP
  have hx := Bd.exec
  have hby := Bd.bytes
  have hml : c.maxLocals = 5 := hml0
  have hown : s.vm.findClass "com/example/ruled_ledger/ruledledger/model/CatchHandler" = some m.cls := findClass_of_methodNamed Bd.named
  have hnm := (name_of_methodNamed Bd.named Bd.method).1
  have hlk : meth.locks = false := BodyLoose.notSynchronized Bd
  have hret := Bd.returns
  have X0 : Stand p l e ({ frames := 1, cells := 0, slots := 0, locals := 12 } : Room) s m #[(.ref a1), (.ref a2), (.int p3), (.int p4), (.ref a5)] below meth c s₁ [] 0 0 := Stand.of_body Bd
  have e0 : s₁.heap = h0 := by rw [← hhp, Bd.state]; rfl
  have N0 := Fr.nil n0
  show Done p e below s (Qrm2 Z a1 a2 p3 p4 a5 h0 n0) ({ frames := 1, cells := 0, slots := 0, locals := 12 } : Room).cells ({ frames := 1, cells := 0, slots := 0, locals := 12 } : Room).slots (s₁.setTop (entryFrame m #[(.ref a1), (.ref a2), (.int p3), (.int p4), (.ref a5)] 5))
  refine Done.step (fun t k => castTop (ef_2 m a1 a2 p3 p4 a5) k) ?_
  show Done p e below s _ _ _ (s₁.setTop (mkF m 0 #[.val (.ref a1), .val (.ref a2), .val (.int p3), .val (.int p4), .val (.ref a5)] []))
  refine Done.step (fun t k => XS.aloadN X0.here hx rfl (hb hby d2_0) rfl rfl k) ?_
  show Done p e below s _ _ _ (s₁.setTop (mkF m 1 #[.val (.ref a1), .val (.ref a2), .val (.int p3), .val (.int p4), .val (.ref a5)] [(.ref a1)]))
  obtain ⟨T101, X101, e101, st101⟩ := initO X0 hx hZ hown (hw _ (List.mem_of_getElem? (i := 21) rfl)) (hw _ (List.mem_of_getElem? (i := 22) rfl)) (hw _ (List.mem_of_getElem? (i := 23) rfl)) e0 (g := (mkF m 1 #[.val (.ref a1), .val (.ref a2), .val (.int p3), .val (.int p4), .val (.ref a5)] [(.ref a1)])) rfl (by rw [hml]; rfl) rfl (hb hby d2_1) (by decide) (W := 0) (by show 2 * 0 + _ ≤ _; exact Nat.le_of_eq rfl) (by decide)
  refine Done.step st101 ?_
  show Done p e below s _ _ _ (T101.setTop (mkF m 4 #[.val (.ref a1), .val (.ref a2), .val (.int p3), .val (.int p4), .val (.ref a5)] []))
  refine Done.step (fun t k => XS.aloadN X101.here hx rfl (hb hby d2_4) rfl rfl k) ?_
  show Done p e below s _ _ _ (T101.setTop (mkF m 5 #[.val (.ref a1), .val (.ref a2), .val (.int p3), .val (.int p4), .val (.ref a5)] [(.ref a1)]))
  refine Done.step (fun t k => XS.aloadN X101.here hx rfl (hb hby d2_5) rfl rfl k) ?_
  show Done p e below s _ _ _ (T101.setTop (mkF m 6 #[.val (.ref a1), .val (.ref a2), .val (.int p3), .val (.int p4), .val (.ref a5)] [(.ref a2), (.ref a1)]))
  obtain ⟨T102, h102, X102, e102, W102, st102⟩ := putF X101 hx hZ hown (host := "") (Or.inl (hw _ (List.mem_of_getElem? (i := 24) rfl))) Via.refl e101 F_caughtClass E1 (Or.inr ⟨(hw _ (List.mem_of_getElem? (i := 25) rfl)), rfl, hnm⟩) (hw _ (List.mem_of_getElem? (i := 8) rfl)) (ty := (.object "java/lang/String")) (by decide) rfl rfl (g := (mkF m 6 #[.val (.ref a1), .val (.ref a2), .val (.int p3), .val (.int p4), .val (.ref a5)] [(.ref a2), (.ref a1)])) rfl rfl (hb hby d2_6)
  have f103 : Exa Z h102 a1 "com/example/ruled_ledger/ruledledger/model/CatchHandler" := E1.wr W102
  have f104 : Fld Z h102 a1 "com/example/ruled_ledger/ruledledger/model/CatchHandler" "caughtClass" "Ljava/lang/String;" (.ref a2) := F_caughtClass.same W102
  have f105 : Fld Z h102 a1 "com/example/ruled_ledger/ruledledger/model/CatchHandler" "canEndWithoutThrowing" "Z" (.int (0 : Int32)) := F_canEndWithoutThrowing.other W102 (Or.inr (slot_ne (Or.inr (hw _ (List.mem_of_getElem? (i := 27) rfl))) (Or.inr (hw _ (List.mem_of_getElem? (i := 25) rfl))) (by decide) (t := .boolean) (t' := (.object "java/lang/String")) (by decide) (by decide)))
  have f106 : Fld Z h102 a1 "com/example/ruled_ledger/ruledledger/model/CatchHandler" "codeStart" "I" (.int (0 : Int32)) := F_codeStart.other W102 (Or.inr (slot_ne (Or.inr (hw _ (List.mem_of_getElem? (i := 29) rfl))) (Or.inr (hw _ (List.mem_of_getElem? (i := 25) rfl))) (by decide) (t := .int) (t' := (.object "java/lang/String")) (by decide) (by decide)))
  have f107 : Fld Z h102 a1 "com/example/ruled_ledger/ruledledger/model/CatchHandler" "ranges" "[I" .null := F_ranges.other W102 (Or.inr (slot_ne (Or.inr (hw _ (List.mem_of_getElem? (i := 31) rfl))) (Or.inr (hw _ (List.mem_of_getElem? (i := 25) rfl))) (by decide) (t := (.array .int)) (t' := (.object "java/lang/String")) (by decide) (by decide)))
  have Z102 : n0 ≤ h102.size := Nat.le_trans Z0 (Keep.of_wr W102).1
  have N102 := Fr.snoc X102 N0 g1
  have K102 : Keep h0 h102 [a1] := (Keep.refl h0 [a1]).wr W102 (Or.inl (by simp))
  refine Done.step st102 ?_
  show Done p e below s _ _ _ (T102.setTop (mkF m 9 #[.val (.ref a1), .val (.ref a2), .val (.int p3), .val (.int p4), .val (.ref a5)] []))
  refine Done.step (fun t k => XS.aloadN X102.here hx rfl (hb hby d2_9) rfl rfl k) ?_
  show Done p e below s _ _ _ (T102.setTop (mkF m 10 #[.val (.ref a1), .val (.ref a2), .val (.int p3), .val (.int p4), .val (.ref a5)] [(.ref a1)]))
  refine Done.step (fun t k => XS.iloadN X102.here hx rfl (hb hby d2_10) rfl k) ?_
  show Done p e below s _ _ _ (T102.setTop (mkF m 11 #[.val (.ref a1), .val (.ref a2), .val (.int p3), .val (.int p4), .val (.ref a5)] [(.int p3), (.ref a1)]))
  obtain ⟨T108, h108, X108, e108, W108, st108⟩ := putFN X102 hx hZ hown (hw _ (List.mem_of_getElem? (i := 26) rfl)) Via.refl e102 f105 f103 (Or.inr ⟨(hw _ (List.mem_of_getElem? (i := 27) rfl)), rfl, hnm⟩) (hw _ (List.mem_of_getElem? (i := 8) rfl)) (ty := .boolean) (v' := (.int (nar .boolean p3))) (by decide) rfl (fits_nar_bool _) (g := (mkF m 11 #[.val (.ref a1), .val (.ref a2), .val (.int p3), .val (.int p4), .val (.ref a5)] [(.int p3), (.ref a1)])) rfl rfl (hb hby d2_11)
  have f109 : Exa Z h108 a1 "com/example/ruled_ledger/ruledledger/model/CatchHandler" := f103.wr W108
  have f110 : Fld Z h108 a1 "com/example/ruled_ledger/ruledledger/model/CatchHandler" "caughtClass" "Ljava/lang/String;" (.ref a2) := f104.other W108 (Or.inr (slot_ne (Or.inr (hw _ (List.mem_of_getElem? (i := 25) rfl))) (Or.inr (hw _ (List.mem_of_getElem? (i := 27) rfl))) (by decide) (t := (.object "java/lang/String")) (t' := .boolean) (by decide) (by decide)))
  have f111 : Fld Z h108 a1 "com/example/ruled_ledger/ruledledger/model/CatchHandler" "canEndWithoutThrowing" "Z" (.int (nar .boolean p3)) := f105.same W108
  have f112 : Fld Z h108 a1 "com/example/ruled_ledger/ruledledger/model/CatchHandler" "codeStart" "I" (.int (0 : Int32)) := f106.other W108 (Or.inr (slot_ne (Or.inr (hw _ (List.mem_of_getElem? (i := 29) rfl))) (Or.inr (hw _ (List.mem_of_getElem? (i := 27) rfl))) (by decide) (t := .int) (t' := .boolean) (by decide) (by decide)))
  have f113 : Fld Z h108 a1 "com/example/ruled_ledger/ruledledger/model/CatchHandler" "ranges" "[I" .null := f107.other W108 (Or.inr (slot_ne (Or.inr (hw _ (List.mem_of_getElem? (i := 31) rfl))) (Or.inr (hw _ (List.mem_of_getElem? (i := 27) rfl))) (by decide) (t := (.array .int)) (t' := .boolean) (by decide) (by decide)))
  have Z108 : n0 ≤ h108.size := Nat.le_trans Z102 (Keep.of_wr W108).1
  have N108 := Fr.snoc X108 N102 g1
  have K108 : Keep h0 h108 [a1] := K102.wr W108 (Or.inl (by simp))
  refine Done.step st108 ?_
  show Done p e below s _ _ _ (T108.setTop (mkF m 14 #[.val (.ref a1), .val (.ref a2), .val (.int p3), .val (.int p4), .val (.ref a5)] []))
  refine Done.step (fun t k => XS.aloadN X108.here hx rfl (hb hby d2_14) rfl rfl k) ?_
  show Done p e below s _ _ _ (T108.setTop (mkF m 15 #[.val (.ref a1), .val (.ref a2), .val (.int p3), .val (.int p4), .val (.ref a5)] [(.ref a1)]))
  refine Done.step (fun t k => XS.iloadN X108.here hx rfl (hb hby d2_15) rfl k) ?_
  show Done p e below s _ _ _ (T108.setTop (mkF m 16 #[.val (.ref a1), .val (.ref a2), .val (.int p3), .val (.int p4), .val (.ref a5)] [(.int p4), (.ref a1)]))
  obtain ⟨T114, h114, X114, e114, W114, st114⟩ := putF X108 hx hZ hown (host := "") (Or.inl (hw _ (List.mem_of_getElem? (i := 28) rfl))) Via.refl e108 f112 f109 (Or.inr ⟨(hw _ (List.mem_of_getElem? (i := 29) rfl)), rfl, hnm⟩) (hw _ (List.mem_of_getElem? (i := 8) rfl)) (ty := .int) (by decide) rfl rfl (g := (mkF m 16 #[.val (.ref a1), .val (.ref a2), .val (.int p3), .val (.int p4), .val (.ref a5)] [(.int p4), (.ref a1)])) rfl rfl (hb hby d2_16)
  have f115 : Exa Z h114 a1 "com/example/ruled_ledger/ruledledger/model/CatchHandler" := f109.wr W114
  have f116 : Fld Z h114 a1 "com/example/ruled_ledger/ruledledger/model/CatchHandler" "caughtClass" "Ljava/lang/String;" (.ref a2) := f110.other W114 (Or.inr (slot_ne (Or.inr (hw _ (List.mem_of_getElem? (i := 25) rfl))) (Or.inr (hw _ (List.mem_of_getElem? (i := 29) rfl))) (by decide) (t := (.object "java/lang/String")) (t' := .int) (by decide) (by decide)))
  have f117 : Fld Z h114 a1 "com/example/ruled_ledger/ruledledger/model/CatchHandler" "canEndWithoutThrowing" "Z" (.int (nar .boolean p3)) := f111.other W114 (Or.inr (slot_ne (Or.inr (hw _ (List.mem_of_getElem? (i := 27) rfl))) (Or.inr (hw _ (List.mem_of_getElem? (i := 29) rfl))) (by decide) (t := .boolean) (t' := .int) (by decide) (by decide)))
  have f118 : Fld Z h114 a1 "com/example/ruled_ledger/ruledledger/model/CatchHandler" "codeStart" "I" (.int p4) := f112.same W114
  have f119 : Fld Z h114 a1 "com/example/ruled_ledger/ruledledger/model/CatchHandler" "ranges" "[I" .null := f113.other W114 (Or.inr (slot_ne (Or.inr (hw _ (List.mem_of_getElem? (i := 31) rfl))) (Or.inr (hw _ (List.mem_of_getElem? (i := 29) rfl))) (by decide) (t := (.array .int)) (t' := .int) (by decide) (by decide)))
  have Z114 : n0 ≤ h114.size := Nat.le_trans Z108 (Keep.of_wr W114).1
  have N114 := Fr.snoc X114 N108 g1
  have K114 : Keep h0 h114 [a1] := K108.wr W114 (Or.inl (by simp))
  refine Done.step st114 ?_
  show Done p e below s _ _ _ (T114.setTop (mkF m 19 #[.val (.ref a1), .val (.ref a2), .val (.int p3), .val (.int p4), .val (.ref a5)] []))
  refine Done.step (fun t k => XS.aloadN X114.here hx rfl (hb hby d2_19) rfl rfl k) ?_
  show Done p e below s _ _ _ (T114.setTop (mkF m 20 #[.val (.ref a1), .val (.ref a2), .val (.int p3), .val (.int p4), .val (.ref a5)] [(.ref a1)]))
  refine Done.step (fun t k => XS.aload X114.here hx rfl (hb hby d2_20) rfl rfl k) ?_
  show Done p e below s _ _ _ (T114.setTop (mkF m 22 #[.val (.ref a1), .val (.ref a2), .val (.int p3), .val (.int p4), .val (.ref a5)] [(.ref a5), (.ref a1)]))
  obtain ⟨T120, h120, X120, e120, W120, st120⟩ := putF X114 hx hZ hown (host := "") (Or.inl (hw _ (List.mem_of_getElem? (i := 30) rfl))) Via.refl e114 f119 f115 (Or.inr ⟨(hw _ (List.mem_of_getElem? (i := 31) rfl)), rfl, hnm⟩) (hw _ (List.mem_of_getElem? (i := 8) rfl)) (ty := (.array .int)) (by decide) rfl rfl (g := (mkF m 22 #[.val (.ref a1), .val (.ref a2), .val (.int p3), .val (.int p4), .val (.ref a5)] [(.ref a5), (.ref a1)])) rfl rfl (hb hby d2_22)
  have f121 : Exa Z h120 a1 "com/example/ruled_ledger/ruledledger/model/CatchHandler" := f115.wr W120
  have f122 : Fld Z h120 a1 "com/example/ruled_ledger/ruledledger/model/CatchHandler" "caughtClass" "Ljava/lang/String;" (.ref a2) := f116.other W120 (Or.inr (slot_ne (Or.inr (hw _ (List.mem_of_getElem? (i := 25) rfl))) (Or.inr (hw _ (List.mem_of_getElem? (i := 31) rfl))) (by decide) (t := (.object "java/lang/String")) (t' := (.array .int)) (by decide) (by decide)))
  have f123 : Fld Z h120 a1 "com/example/ruled_ledger/ruledledger/model/CatchHandler" "canEndWithoutThrowing" "Z" (.int (nar .boolean p3)) := f117.other W120 (Or.inr (slot_ne (Or.inr (hw _ (List.mem_of_getElem? (i := 27) rfl))) (Or.inr (hw _ (List.mem_of_getElem? (i := 31) rfl))) (by decide) (t := .boolean) (t' := (.array .int)) (by decide) (by decide)))
  have f124 : Fld Z h120 a1 "com/example/ruled_ledger/ruledledger/model/CatchHandler" "codeStart" "I" (.int p4) := f118.other W120 (Or.inr (slot_ne (Or.inr (hw _ (List.mem_of_getElem? (i := 29) rfl))) (Or.inr (hw _ (List.mem_of_getElem? (i := 31) rfl))) (by decide) (t := .int) (t' := (.array .int)) (by decide) (by decide)))
  have f125 : Fld Z h120 a1 "com/example/ruled_ledger/ruledledger/model/CatchHandler" "ranges" "[I" (.ref a5) := f119.same W120
  have Z120 : n0 ≤ h120.size := Nat.le_trans Z114 (Keep.of_wr W120).1
  have N120 := Fr.snoc X120 N114 g1
  have K120 : Keep h0 h120 [a1] := K114.wr W120 (Or.inl (by simp))
  refine Done.step st120 ?_
  show Done p e below s _ _ _ (T120.setTop (mkF m 25 #[.val (.ref a1), .val (.ref a2), .val (.int p3), .val (.int p4), .val (.ref a5)] []))
  exact Done.void X120 hx hlk hret (hb hby d2_25) (by decide) (by decide) ⟨rfl, N120, (by rw [e120]; exact ⟨K120, f121, f124, f125⟩)⟩
theorem d4_0 : decode prog_13_method_4_code 0 = .ok (.iconst 0, 1) := by decide +kernel
theorem d4_1 : decode prog_13_method_4_code 1 = .ok (.istore_n 2, 1) := by decide +kernel
theorem d4_2 : decode prog_13_method_4_code 2 = .ok (.aload_n 0, 1) := by decide +kernel
theorem d4_3 : decode prog_13_method_4_code 3 = .ok (.getfield 21, 3) := by decide +kernel
theorem d4_6 : decode prog_13_method_4_code 6 = .ok (.arraylength, 1) := by decide +kernel
theorem d4_7 : decode prog_13_method_4_code 7 = .ok (.iconst 2, 1) := by decide +kernel
theorem d4_8 : decode prog_13_method_4_code 8 = .ok (.idiv, 1) := by decide +kernel
theorem d4_9 : decode prog_13_method_4_code 9 = .ok (.istore_n 3, 1) := by decide +kernel
theorem d4_10 : decode prog_13_method_4_code 10 = .ok (.iload_n 2, 1) := by decide +kernel
theorem d4_11 : decode prog_13_method_4_code 11 = .ok (.iload_n 3, 1) := by decide +kernel
theorem d4_12 : decode prog_13_method_4_code 12 = .ok (.if_icmp .ge 40, 3) := by decide +kernel
theorem d4_52 : decode prog_13_method_4_code 52 = .ok (.iload_n 2, 1) := by decide +kernel
theorem d4_53 : decode prog_13_method_4_code 53 = .ok (.ifCond .le 24, 3) := by decide +kernel
theorem d4_77 : decode prog_13_method_4_code 77 = .ok (.iconst 0, 1) := by decide +kernel
theorem d4_78 : decode prog_13_method_4_code 78 = .ok (.ireturn, 1) := by decide +kernel
def CV0 (cc : Int32) : Int32 := (0 : Int32)
theorem pn_4 : plainName "com/example/ruled_ledger/ruledledger/model/CatchHandler" = true := by first | (simp [plainName, overriddenIn]; done) | decide +kernel
theorem ef_4 (m : MethodId) (a1 : Addr) (a2 : Addr) : entryFrame m #[(.ref a1), (.ref a2)] 5 = mkF m 0 #[.val (.ref a1), .val (.ref a2), .unset, .unset, .unset] [] := by first | (simp [entryFrame, mkF, argsToLocals, Value.category]; done) | rfl
def Qrmc0 (Z : State) (a1 : Addr) (a2 : Addr) (ar : Addr) (cc ee : Int32) (h0 : Heap) (n0 : Nat) : Option Value → Heap → List Loc → Prop := fun v h L => v = some (.int ee) ∧ Fr n0 L ∧ h = h0
set_option maxRecDepth 65536 in
set_option maxHeartbeats 40000000 in
theorem rmc0 (l : Launch) (Z : State) (a0 : Array Value) (hw : ∀ d ∈ tables_1, d.before a0 Z = true) (ws : List Jvm.Cond) (a1 : Addr) (a2 : Addr) (ar : Addr) (cc ee : Int32) (h0 : Heap) (n0 : Nat) (Z0 : n0 ≤ h0.size) (F1 : Fld Z h0 a1 "com/example/ruled_ledger/ruledledger/model/CatchHandler" "ranges" "[I" (.ref ar)) (A1 : Ax Z h0 ar .int []) (F2 : Fld Z h0 a2 "com/example/ruled_ledger/ruledledger/model/CatchHandler" "codeStart" "I" (.int cc)) (he : CV0 cc = ee) :
    MetFree l (⟨"com/example/ruled_ledger/ruledledger/model/CatchHandler", "coversCodeOf", "(Lcom/example/ruled_ledger/ruledledger/model/CatchHandler;)Z"⟩ : MethodName) (head1 (Jvm.Cond.code (⟨"com/example/ruled_ledger/ruledledger/model/CatchHandler", "coversCodeOf", "(Lcom/example/ruled_ledger/ruledledger/model/CatchHandler;)Z"⟩ : MethodName) prog_13_method_4_code 5 (some .boolean) :: ws) ({ frames := 0, cells := 0, slots := 0, locals := 0 } : Room)) (fun a U => a = #[(.ref a1), (.ref a2)] ∧ Z.Warmed39 U.vm ∧ U.heap = h0) (fun _ _ _ _ _ => True) (fun _ U o U' => ∃ v L, o = .returned v ∧ Qrmc0 Z a1 a2 ar cc ee h0 n0 v U'.heap L ∧ FrameEnd U o U' L ({ frames := 0, cells := 0, slots := 0, locals := 0 } : Room).cells ({ frames := 0, cells := 0, slots := 0, locals := 0 } : Room).slots) := by
  refine MetFree.of_bodySF (plainFor_of_name pn_4) hisR ?_
  intro p e s m args below meth c s₁ Bd hml0 hP hK
  obtain ⟨rfl, hZ, hhp⟩ := hP
  have hx := Bd.exec
  have hby := Bd.bytes
  have hml : c.maxLocals = 5 := hml0
  have hown : s.vm.findClass "com/example/ruled_ledger/ruledledger/model/CatchHandler" = some m.cls := findClass_of_methodNamed Bd.named
  have hnm := (name_of_methodNamed Bd.named Bd.method).1
  have hlk : meth.locks = false := BodyLoose.notSynchronized Bd
  have hret := Bd.returns
  have X0 : Stand p l e ({ frames := 0, cells := 0, slots := 0, locals := 0 } : Room) s m #[(.ref a1), (.ref a2)] below meth c s₁ [] 0 0 := Stand.of_body Bd
  have e0 : s₁.heap = h0 := by rw [← hhp, Bd.state]; rfl
  have N0 := Fr.nil n0
  show Done p e below s (Qrmc0 Z a1 a2 ar cc ee h0 n0) ({ frames := 0, cells := 0, slots := 0, locals := 0 } : Room).cells ({ frames := 0, cells := 0, slots := 0, locals := 0 } : Room).slots (s₁.setTop (entryFrame m #[(.ref a1), (.ref a2)] 5))
  refine Done.step (fun t k => castTop (ef_4 m a1 a2) k) ?_
  show Done p e below s _ _ _ (s₁.setTop (mkF m 0 #[.val (.ref a1), .val (.ref a2), .unset, .unset, .unset] []))
  refine Done.step (fun t k => XS.iconst X0.here hx rfl (hb hby d4_0) k) ?_
  show Done p e below s _ _ _ (s₁.setTop (mkF m 1 #[.val (.ref a1), .val (.ref a2), .unset, .unset, .unset] [(.int (0 : Int32))]))
  refine Done.step (fun t k => XS.istoreN X0.here hx rfl (hb hby d4_1) rfl (l' := #[.val (.ref a1), .val (.ref a2), .val (.int (0 : Int32)), .unset, .unset]) rfl k) ?_
  show Done p e below s _ _ _ (s₁.setTop (mkF m 2 #[.val (.ref a1), .val (.ref a2), .val (.int (0 : Int32)), .unset, .unset] []))
  refine Done.step (fun t k => XS.aloadN X0.here hx rfl (hb hby d4_2) rfl rfl k) ?_
  show Done p e below s _ _ _ (s₁.setTop (mkF m 3 #[.val (.ref a1), .val (.ref a2), .val (.int (0 : Int32)), .unset, .unset] [(.ref a1)]))
  obtain ⟨T101, X101, e101, st101⟩ := getF X0 hx hZ hown (host := "") (Or.inl (hw _ (List.mem_of_getElem? (i := 30) rfl))) Via.refl e0 F1 (g := (mkF m 3 #[.val (.ref a1), .val (.ref a2), .val (.int (0 : Int32)), .unset, .unset] [(.ref a1)])) rfl rfl (hb hby d4_3)
  refine Done.step st101 ?_
  show Done p e below s _ _ _ (T101.setTop (mkF m 6 #[.val (.ref a1), .val (.ref a2), .val (.int (0 : Int32)), .unset, .unset] [(.ref ar)]))
  refine Done.step (lenA X101 hx hZ e101 A1 (n := (0 : Int32)) rfl (g := (mkF m 6 #[.val (.ref a1), .val (.ref a2), .val (.int (0 : Int32)), .unset, .unset] [(.ref ar)])) rfl rfl (hb hby d4_6)) ?_
  show Done p e below s _ _ _ (T101.setTop (mkF m 7 #[.val (.ref a1), .val (.ref a2), .val (.int (0 : Int32)), .unset, .unset] [(.int (0 : Int32))]))
  refine Done.step (fun t k => XS.iconst X101.here hx rfl (hb hby d4_7) k) ?_
  show Done p e below s _ _ _ (T101.setTop (mkF m 8 #[.val (.ref a1), .val (.ref a2), .val (.int (0 : Int32)), .unset, .unset] [(.int (2 : Int32)), (.int (0 : Int32))]))
  refine Done.step (fun t k => XS.idiv X101.here hx rfl (hb hby d4_8) rfl (by decide) k) ?_
  show Done p e below s _ _ _ (T101.setTop (mkF m 9 #[.val (.ref a1), .val (.ref a2), .val (.int (0 : Int32)), .unset, .unset] [(.int ((0 : Int32) / (2 : Int32)))]))
  rw [show ((0 : Int32) / (2 : Int32)) = (0 : Int32) from by decide]
  show Done p e below s _ _ _ (T101.setTop (mkF m 9 #[.val (.ref a1), .val (.ref a2), .val (.int (0 : Int32)), .unset, .unset] [(.int (0 : Int32))]))
  refine Done.step (fun t k => XS.istoreN X101.here hx rfl (hb hby d4_9) rfl (l' := #[.val (.ref a1), .val (.ref a2), .val (.int (0 : Int32)), .val (.int (0 : Int32)), .unset]) rfl k) ?_
  show Done p e below s _ _ _ (T101.setTop (mkF m 10 #[.val (.ref a1), .val (.ref a2), .val (.int (0 : Int32)), .val (.int (0 : Int32)), .unset] []))
  refine Done.step (fun t k => XS.iloadN X101.here hx rfl (hb hby d4_10) rfl k) ?_
  show Done p e below s _ _ _ (T101.setTop (mkF m 11 #[.val (.ref a1), .val (.ref a2), .val (.int (0 : Int32)), .val (.int (0 : Int32)), .unset] [(.int (0 : Int32))]))
  refine Done.step (fun t k => XS.iloadN X101.here hx rfl (hb hby d4_11) rfl k) ?_
  show Done p e below s _ _ _ (T101.setTop (mkF m 12 #[.val (.ref a1), .val (.ref a2), .val (.int (0 : Int32)), .val (.int (0 : Int32)), .unset] [(.int (0 : Int32)), (.int (0 : Int32))]))
  refine Done.step (fun t k => XS.icmpYes X101.here hx rfl (pc0 := 12) (pc' := 52) rfl (hb hby d4_12) rfl (flt (by decide)).2.1 (by decide) (by decide) k) ?_
  show Done p e below s _ _ _ (T101.setTop (mkF m 52 #[.val (.ref a1), .val (.ref a2), .val (.int (0 : Int32)), .val (.int (0 : Int32)), .unset] []))
  refine Done.step (fun t k => XS.iloadN X101.here hx rfl (hb hby d4_52) rfl k) ?_
  show Done p e below s _ _ _ (T101.setTop (mkF m 53 #[.val (.ref a1), .val (.ref a2), .val (.int (0 : Int32)), .val (.int (0 : Int32)), .unset] [(.int (0 : Int32))]))
  refine Done.step (fun t k => XS.ifYes X101.here hx rfl (pc0 := 53) (pc' := 77) rfl (hb hby d4_53) rfl ((if0 _ _).trans (flt (by decide)).2.2.2) (by decide) (by decide) k) ?_
  show Done p e below s _ _ _ (T101.setTop (mkF m 77 #[.val (.ref a1), .val (.ref a2), .val (.int (0 : Int32)), .val (.int (0 : Int32)), .unset] []))
  refine Done.step (fun t k => XS.iconst X101.here hx rfl (hb hby d4_77) k) ?_
  show Done p e below s _ _ _ (T101.setTop (mkF m 78 #[.val (.ref a1), .val (.ref a2), .val (.int (0 : Int32)), .val (.int (0 : Int32)), .unset] [(.int (0 : Int32))]))
  exact Done.narr X101 hx hlk hret (by simp) (hb hby d4_78) (by decide) (by decide) ⟨by rw [← he, show CV0 cc = (0 : Int32) from by unfold CV0; rfl] <;> rfl, N0, e101⟩
theorem d4_15 : decode prog_13_method_4_code 15 = .ok (.iload_n 2, 1) := by decide +kernel
theorem d4_16 : decode prog_13_method_4_code 16 = .ok (.iload_n 3, 1) := by decide +kernel
theorem d4_17 : decode prog_13_method_4_code 17 = .ok (.iadd, 1) := by decide +kernel
theorem d4_18 : decode prog_13_method_4_code 18 = .ok (.iconst 1, 1) := by decide +kernel
theorem d4_19 : decode prog_13_method_4_code 19 = .ok (.iushr, 1) := by decide +kernel
theorem d4_20 : decode prog_13_method_4_code 20 = .ok (.istore 4, 2) := by decide +kernel
theorem d4_22 : decode prog_13_method_4_code 22 = .ok (.aload_n 0, 1) := by decide +kernel
theorem d4_23 : decode prog_13_method_4_code 23 = .ok (.getfield 21, 3) := by decide +kernel
theorem d4_26 : decode prog_13_method_4_code 26 = .ok (.iconst 2, 1) := by decide +kernel
theorem d4_27 : decode prog_13_method_4_code 27 = .ok (.iload 4, 2) := by decide +kernel
theorem d4_29 : decode prog_13_method_4_code 29 = .ok (.imul, 1) := by decide +kernel
theorem d4_30 : decode prog_13_method_4_code 30 = .ok (.iaload, 1) := by decide +kernel
theorem d4_31 : decode prog_13_method_4_code 31 = .ok (.aload_n 1, 1) := by decide +kernel
theorem d4_32 : decode prog_13_method_4_code 32 = .ok (.getfield 17, 3) := by decide +kernel
theorem d4_35 : decode prog_13_method_4_code 35 = .ok (.if_icmp .gt 11, 3) := by decide +kernel
theorem d4_38 : decode prog_13_method_4_code 38 = .ok (.iload 4, 2) := by decide +kernel
theorem d4_40 : decode prog_13_method_4_code 40 = .ok (.iconst 1, 1) := by decide +kernel
theorem d4_41 : decode prog_13_method_4_code 41 = .ok (.iadd, 1) := by decide +kernel
theorem d4_42 : decode prog_13_method_4_code 42 = .ok (.istore_n 2, 1) := by decide +kernel
theorem d4_43 : decode prog_13_method_4_code 43 = .ok (.goto 6, 3) := by decide +kernel
theorem d4_46 : decode prog_13_method_4_code 46 = .ok (.iload 4, 2) := by decide +kernel
theorem d4_48 : decode prog_13_method_4_code 48 = .ok (.istore_n 3, 1) := by decide +kernel
theorem d4_49 : decode prog_13_method_4_code 49 = .ok (.goto (-39), 3) := by decide +kernel
theorem d4_56 : decode prog_13_method_4_code 56 = .ok (.aload_n 1, 1) := by decide +kernel
theorem d4_57 : decode prog_13_method_4_code 57 = .ok (.getfield 17, 3) := by decide +kernel
theorem d4_60 : decode prog_13_method_4_code 60 = .ok (.aload_n 0, 1) := by decide +kernel
theorem d4_61 : decode prog_13_method_4_code 61 = .ok (.getfield 21, 3) := by decide +kernel
theorem d4_64 : decode prog_13_method_4_code 64 = .ok (.iconst 2, 1) := by decide +kernel
theorem d4_65 : decode prog_13_method_4_code 65 = .ok (.iload_n 2, 1) := by decide +kernel
theorem d4_66 : decode prog_13_method_4_code 66 = .ok (.imul, 1) := by decide +kernel
theorem d4_67 : decode prog_13_method_4_code 67 = .ok (.iconst 1, 1) := by decide +kernel
theorem d4_68 : decode prog_13_method_4_code 68 = .ok (.isub, 1) := by decide +kernel
theorem d4_69 : decode prog_13_method_4_code 69 = .ok (.iaload, 1) := by decide +kernel
theorem d4_70 : decode prog_13_method_4_code 70 = .ok (.if_icmp .ge 7, 3) := by decide +kernel
theorem d4_73 : decode prog_13_method_4_code 73 = .ok (.iconst 1, 1) := by decide +kernel
theorem d4_74 : decode prog_13_method_4_code 74 = .ok (.goto 4, 3) := by decide +kernel
def CV1 (v0 v1 cc : Int32) : Int32 := (if cc < v0 then (0 : Int32)
  else (if cc < v1 then (1 : Int32)
    else (0 : Int32)))
def Qrmc1 (Z : State) (a1 : Addr) (a2 : Addr) (ar : Addr) (v0 v1 cc ee : Int32) (h0 : Heap) (n0 : Nat) : Option Value → Heap → List Loc → Prop := fun v h L => v = some (.int ee) ∧ Fr n0 L ∧ h = h0
set_option maxRecDepth 65536 in
set_option maxHeartbeats 40000000 in
theorem rmc1 (l : Launch) (Z : State) (a0 : Array Value) (hw : ∀ d ∈ tables_1, d.before a0 Z = true) (ws : List Jvm.Cond) (a1 : Addr) (a2 : Addr) (ar : Addr) (v0 v1 cc ee : Int32) (h0 : Heap) (n0 : Nat) (Z0 : n0 ≤ h0.size) (F1 : Fld Z h0 a1 "com/example/ruled_ledger/ruledledger/model/CatchHandler" "ranges" "[I" (.ref ar)) (A1 : Ax Z h0 ar .int [(.int v0), (.int v1)]) (F2 : Fld Z h0 a2 "com/example/ruled_ledger/ruledledger/model/CatchHandler" "codeStart" "I" (.int cc)) (he : CV1 v0 v1 cc = ee) :
    MetFree l (⟨"com/example/ruled_ledger/ruledledger/model/CatchHandler", "coversCodeOf", "(Lcom/example/ruled_ledger/ruledledger/model/CatchHandler;)Z"⟩ : MethodName) (head1 (Jvm.Cond.code (⟨"com/example/ruled_ledger/ruledledger/model/CatchHandler", "coversCodeOf", "(Lcom/example/ruled_ledger/ruledledger/model/CatchHandler;)Z"⟩ : MethodName) prog_13_method_4_code 5 (some .boolean) :: ws) ({ frames := 0, cells := 0, slots := 0, locals := 0 } : Room)) (fun a U => a = #[(.ref a1), (.ref a2)] ∧ Z.Warmed39 U.vm ∧ U.heap = h0) (fun _ _ _ _ _ => True) (fun _ U o U' => ∃ v L, o = .returned v ∧ Qrmc1 Z a1 a2 ar v0 v1 cc ee h0 n0 v U'.heap L ∧ FrameEnd U o U' L ({ frames := 0, cells := 0, slots := 0, locals := 0 } : Room).cells ({ frames := 0, cells := 0, slots := 0, locals := 0 } : Room).slots) := by
  refine MetFree.of_bodySF (plainFor_of_name pn_4) hisR ?_
  intro p e s m args below meth c s₁ Bd hml0 hP hK
  obtain ⟨rfl, hZ, hhp⟩ := hP
  have hx := Bd.exec
  have hby := Bd.bytes
  have hml : c.maxLocals = 5 := hml0
  have hown : s.vm.findClass "com/example/ruled_ledger/ruledledger/model/CatchHandler" = some m.cls := findClass_of_methodNamed Bd.named
  have hnm := (name_of_methodNamed Bd.named Bd.method).1
  have hlk : meth.locks = false := BodyLoose.notSynchronized Bd
  have hret := Bd.returns
  have X0 : Stand p l e ({ frames := 0, cells := 0, slots := 0, locals := 0 } : Room) s m #[(.ref a1), (.ref a2)] below meth c s₁ [] 0 0 := Stand.of_body Bd
  have e0 : s₁.heap = h0 := by rw [← hhp, Bd.state]; rfl
  have N0 := Fr.nil n0
  show Done p e below s (Qrmc1 Z a1 a2 ar v0 v1 cc ee h0 n0) ({ frames := 0, cells := 0, slots := 0, locals := 0 } : Room).cells ({ frames := 0, cells := 0, slots := 0, locals := 0 } : Room).slots (s₁.setTop (entryFrame m #[(.ref a1), (.ref a2)] 5))
  refine Done.step (fun t k => castTop (ef_4 m a1 a2) k) ?_
  show Done p e below s _ _ _ (s₁.setTop (mkF m 0 #[.val (.ref a1), .val (.ref a2), .unset, .unset, .unset] []))
  refine Done.step (fun t k => XS.iconst X0.here hx rfl (hb hby d4_0) k) ?_
  show Done p e below s _ _ _ (s₁.setTop (mkF m 1 #[.val (.ref a1), .val (.ref a2), .unset, .unset, .unset] [(.int (0 : Int32))]))
  refine Done.step (fun t k => XS.istoreN X0.here hx rfl (hb hby d4_1) rfl (l' := #[.val (.ref a1), .val (.ref a2), .val (.int (0 : Int32)), .unset, .unset]) rfl k) ?_
  show Done p e below s _ _ _ (s₁.setTop (mkF m 2 #[.val (.ref a1), .val (.ref a2), .val (.int (0 : Int32)), .unset, .unset] []))
  refine Done.step (fun t k => XS.aloadN X0.here hx rfl (hb hby d4_2) rfl rfl k) ?_
  show Done p e below s _ _ _ (s₁.setTop (mkF m 3 #[.val (.ref a1), .val (.ref a2), .val (.int (0 : Int32)), .unset, .unset] [(.ref a1)]))
  obtain ⟨T101, X101, e101, st101⟩ := getF X0 hx hZ hown (host := "") (Or.inl (hw _ (List.mem_of_getElem? (i := 30) rfl))) Via.refl e0 F1 (g := (mkF m 3 #[.val (.ref a1), .val (.ref a2), .val (.int (0 : Int32)), .unset, .unset] [(.ref a1)])) rfl rfl (hb hby d4_3)
  refine Done.step st101 ?_
  show Done p e below s _ _ _ (T101.setTop (mkF m 6 #[.val (.ref a1), .val (.ref a2), .val (.int (0 : Int32)), .unset, .unset] [(.ref ar)]))
  refine Done.step (lenA X101 hx hZ e101 A1 (n := (2 : Int32)) rfl (g := (mkF m 6 #[.val (.ref a1), .val (.ref a2), .val (.int (0 : Int32)), .unset, .unset] [(.ref ar)])) rfl rfl (hb hby d4_6)) ?_
  show Done p e below s _ _ _ (T101.setTop (mkF m 7 #[.val (.ref a1), .val (.ref a2), .val (.int (0 : Int32)), .unset, .unset] [(.int (2 : Int32))]))
  refine Done.step (fun t k => XS.iconst X101.here hx rfl (hb hby d4_7) k) ?_
  show Done p e below s _ _ _ (T101.setTop (mkF m 8 #[.val (.ref a1), .val (.ref a2), .val (.int (0 : Int32)), .unset, .unset] [(.int (2 : Int32)), (.int (2 : Int32))]))
  refine Done.step (fun t k => XS.idiv X101.here hx rfl (hb hby d4_8) rfl (by decide) k) ?_
  show Done p e below s _ _ _ (T101.setTop (mkF m 9 #[.val (.ref a1), .val (.ref a2), .val (.int (0 : Int32)), .unset, .unset] [(.int ((2 : Int32) / (2 : Int32)))]))
  rw [show ((2 : Int32) / (2 : Int32)) = (1 : Int32) from by decide]
  show Done p e below s _ _ _ (T101.setTop (mkF m 9 #[.val (.ref a1), .val (.ref a2), .val (.int (0 : Int32)), .unset, .unset] [(.int (1 : Int32))]))
  refine Done.step (fun t k => XS.istoreN X101.here hx rfl (hb hby d4_9) rfl (l' := #[.val (.ref a1), .val (.ref a2), .val (.int (0 : Int32)), .val (.int (1 : Int32)), .unset]) rfl k) ?_
  show Done p e below s _ _ _ (T101.setTop (mkF m 10 #[.val (.ref a1), .val (.ref a2), .val (.int (0 : Int32)), .val (.int (1 : Int32)), .unset] []))
  refine Done.step (fun t k => XS.iloadN X101.here hx rfl (hb hby d4_10) rfl k) ?_
  show Done p e below s _ _ _ (T101.setTop (mkF m 11 #[.val (.ref a1), .val (.ref a2), .val (.int (0 : Int32)), .val (.int (1 : Int32)), .unset] [(.int (0 : Int32))]))
  refine Done.step (fun t k => XS.iloadN X101.here hx rfl (hb hby d4_11) rfl k) ?_
  show Done p e below s _ _ _ (T101.setTop (mkF m 12 #[.val (.ref a1), .val (.ref a2), .val (.int (0 : Int32)), .val (.int (1 : Int32)), .unset] [(.int (1 : Int32)), (.int (0 : Int32))]))
  refine Done.step (fun t k => XS.icmpNo X101.here hx rfl (hb hby d4_12) rfl (tlt (by decide)).2.1 k) ?_
  show Done p e below s _ _ _ (T101.setTop (mkF m 15 #[.val (.ref a1), .val (.ref a2), .val (.int (0 : Int32)), .val (.int (1 : Int32)), .unset] []))
  refine Done.step (fun t k => XS.iloadN X101.here hx rfl (hb hby d4_15) rfl k) ?_
  show Done p e below s _ _ _ (T101.setTop (mkF m 16 #[.val (.ref a1), .val (.ref a2), .val (.int (0 : Int32)), .val (.int (1 : Int32)), .unset] [(.int (0 : Int32))]))
  refine Done.step (fun t k => XS.iloadN X101.here hx rfl (hb hby d4_16) rfl k) ?_
  show Done p e below s _ _ _ (T101.setTop (mkF m 17 #[.val (.ref a1), .val (.ref a2), .val (.int (0 : Int32)), .val (.int (1 : Int32)), .unset] [(.int (1 : Int32)), (.int (0 : Int32))]))
  refine Done.step (fun t k => XS.iadd X101.here hx rfl (hb hby d4_17) rfl k) ?_
  show Done p e below s _ _ _ (T101.setTop (mkF m 18 #[.val (.ref a1), .val (.ref a2), .val (.int (0 : Int32)), .val (.int (1 : Int32)), .unset] [(.int ((0 : Int32) + (1 : Int32)))]))
  rw [show ((0 : Int32) + (1 : Int32)) = (1 : Int32) from by decide]
  show Done p e below s _ _ _ (T101.setTop (mkF m 18 #[.val (.ref a1), .val (.ref a2), .val (.int (0 : Int32)), .val (.int (1 : Int32)), .unset] [(.int (1 : Int32))]))
  refine Done.step (fun t k => XS.iconst X101.here hx rfl (hb hby d4_18) k) ?_
  show Done p e below s _ _ _ (T101.setTop (mkF m 19 #[.val (.ref a1), .val (.ref a2), .val (.int (0 : Int32)), .val (.int (1 : Int32)), .unset] [(.int (1 : Int32)), (.int (1 : Int32))]))
  refine Done.step (fun t k => XS.iushr X101.here hx rfl (hb hby d4_19) rfl k) ?_
  show Done p e below s _ _ _ (T101.setTop (mkF m 20 #[.val (.ref a1), .val (.ref a2), .val (.int (0 : Int32)), .val (.int (1 : Int32)), .unset] [(.int (((1 : Int32).toUInt32 >>> ((1 : Int32) &&& 31).toUInt32).toInt32))]))
  rw [show (((1 : Int32).toUInt32 >>> ((1 : Int32) &&& 31).toUInt32).toInt32) = (0 : Int32) from by decide]
  show Done p e below s _ _ _ (T101.setTop (mkF m 20 #[.val (.ref a1), .val (.ref a2), .val (.int (0 : Int32)), .val (.int (1 : Int32)), .unset] [(.int (0 : Int32))]))
  refine Done.step (fun t k => XS.istore X101.here hx rfl (hb hby d4_20) rfl (l' := #[.val (.ref a1), .val (.ref a2), .val (.int (0 : Int32)), .val (.int (1 : Int32)), .val (.int (0 : Int32))]) rfl k) ?_
  show Done p e below s _ _ _ (T101.setTop (mkF m 22 #[.val (.ref a1), .val (.ref a2), .val (.int (0 : Int32)), .val (.int (1 : Int32)), .val (.int (0 : Int32))] []))
  refine Done.step (fun t k => XS.aloadN X101.here hx rfl (hb hby d4_22) rfl rfl k) ?_
  show Done p e below s _ _ _ (T101.setTop (mkF m 23 #[.val (.ref a1), .val (.ref a2), .val (.int (0 : Int32)), .val (.int (1 : Int32)), .val (.int (0 : Int32))] [(.ref a1)]))
  obtain ⟨T102, X102, e102, st102⟩ := getF X101 hx hZ hown (host := "") (Or.inl (hw _ (List.mem_of_getElem? (i := 30) rfl))) Via.refl e101 F1 (g := (mkF m 23 #[.val (.ref a1), .val (.ref a2), .val (.int (0 : Int32)), .val (.int (1 : Int32)), .val (.int (0 : Int32))] [(.ref a1)])) rfl rfl (hb hby d4_23)
  refine Done.step st102 ?_
  show Done p e below s _ _ _ (T102.setTop (mkF m 26 #[.val (.ref a1), .val (.ref a2), .val (.int (0 : Int32)), .val (.int (1 : Int32)), .val (.int (0 : Int32))] [(.ref ar)]))
  refine Done.step (fun t k => XS.iconst X102.here hx rfl (hb hby d4_26) k) ?_
  show Done p e below s _ _ _ (T102.setTop (mkF m 27 #[.val (.ref a1), .val (.ref a2), .val (.int (0 : Int32)), .val (.int (1 : Int32)), .val (.int (0 : Int32))] [(.int (2 : Int32)), (.ref ar)]))
  refine Done.step (fun t k => XS.iload X102.here hx rfl (hb hby d4_27) rfl k) ?_
  show Done p e below s _ _ _ (T102.setTop (mkF m 29 #[.val (.ref a1), .val (.ref a2), .val (.int (0 : Int32)), .val (.int (1 : Int32)), .val (.int (0 : Int32))] [(.int (0 : Int32)), (.int (2 : Int32)), (.ref ar)]))
  refine Done.step (fun t k => XS.imul X102.here hx rfl (hb hby d4_29) rfl k) ?_
  show Done p e below s _ _ _ (T102.setTop (mkF m 30 #[.val (.ref a1), .val (.ref a2), .val (.int (0 : Int32)), .val (.int (1 : Int32)), .val (.int (0 : Int32))] [(.int ((2 : Int32) * (0 : Int32))), (.ref ar)]))
  rw [show ((2 : Int32) * (0 : Int32)) = (0 : Int32) from by decide]
  show Done p e below s _ _ _ (T102.setTop (mkF m 30 #[.val (.ref a1), .val (.ref a2), .val (.int (0 : Int32)), .val (.int (1 : Int32)), .val (.int (0 : Int32))] [(.int (0 : Int32)), (.ref ar)]))
  refine Done.step (ldI X102 hx hZ e102 A1 (j := (0 : Int32)) (x := (.int v0)) (by decide) rfl (g := (mkF m 30 #[.val (.ref a1), .val (.ref a2), .val (.int (0 : Int32)), .val (.int (1 : Int32)), .val (.int (0 : Int32))] [(.int (0 : Int32)), (.ref ar)])) rfl rfl (hb hby d4_30)) ?_
  show Done p e below s _ _ _ (T102.setTop (mkF m 31 #[.val (.ref a1), .val (.ref a2), .val (.int (0 : Int32)), .val (.int (1 : Int32)), .val (.int (0 : Int32))] [(.int v0)]))
  refine Done.step (fun t k => XS.aloadN X102.here hx rfl (hb hby d4_31) rfl rfl k) ?_
  show Done p e below s _ _ _ (T102.setTop (mkF m 32 #[.val (.ref a1), .val (.ref a2), .val (.int (0 : Int32)), .val (.int (1 : Int32)), .val (.int (0 : Int32))] [(.ref a2), (.int v0)]))
  obtain ⟨T103, X103, e103, st103⟩ := getF X102 hx hZ hown (host := "") (Or.inl (hw _ (List.mem_of_getElem? (i := 28) rfl))) Via.refl e102 F2 (g := (mkF m 32 #[.val (.ref a1), .val (.ref a2), .val (.int (0 : Int32)), .val (.int (1 : Int32)), .val (.int (0 : Int32))] [(.ref a2), (.int v0)])) rfl rfl (hb hby d4_32)
  refine Done.step st103 ?_
  show Done p e below s _ _ _ (T103.setTop (mkF m 35 #[.val (.ref a1), .val (.ref a2), .val (.int (0 : Int32)), .val (.int (1 : Int32)), .val (.int (0 : Int32))] [(.int cc), (.int v0)]))
  by_cases c1 : cc < v0
  · refine Done.step (fun t k => XS.icmpYes X103.here hx rfl (pc0 := 35) (pc' := 46) rfl (hb hby d4_35) rfl (tlt c1).2.2.1 (by decide) (by decide) k) ?_
    show Done p e below s _ _ _ (T103.setTop (mkF m 46 #[.val (.ref a1), .val (.ref a2), .val (.int (0 : Int32)), .val (.int (1 : Int32)), .val (.int (0 : Int32))] []))
    refine Done.step (fun t k => XS.iload X103.here hx rfl (hb hby d4_46) rfl k) ?_
    show Done p e below s _ _ _ (T103.setTop (mkF m 48 #[.val (.ref a1), .val (.ref a2), .val (.int (0 : Int32)), .val (.int (1 : Int32)), .val (.int (0 : Int32))] [(.int (0 : Int32))]))
    refine Done.step (fun t k => XS.istoreN X103.here hx rfl (hb hby d4_48) rfl (l' := #[.val (.ref a1), .val (.ref a2), .val (.int (0 : Int32)), .val (.int (0 : Int32)), .val (.int (0 : Int32))]) rfl k) ?_
    show Done p e below s _ _ _ (T103.setTop (mkF m 49 #[.val (.ref a1), .val (.ref a2), .val (.int (0 : Int32)), .val (.int (0 : Int32)), .val (.int (0 : Int32))] []))
    refine Done.step (fun t k => XS.goto X103.here hx rfl (pc0 := 49) (pc' := 10) rfl (hb hby d4_49) (by decide) (by decide) k) ?_
    show Done p e below s _ _ _ (T103.setTop (mkF m 10 #[.val (.ref a1), .val (.ref a2), .val (.int (0 : Int32)), .val (.int (0 : Int32)), .val (.int (0 : Int32))] []))
    refine Done.step (fun t k => XS.iloadN X103.here hx rfl (hb hby d4_10) rfl k) ?_
    show Done p e below s _ _ _ (T103.setTop (mkF m 11 #[.val (.ref a1), .val (.ref a2), .val (.int (0 : Int32)), .val (.int (0 : Int32)), .val (.int (0 : Int32))] [(.int (0 : Int32))]))
    refine Done.step (fun t k => XS.iloadN X103.here hx rfl (hb hby d4_11) rfl k) ?_
    show Done p e below s _ _ _ (T103.setTop (mkF m 12 #[.val (.ref a1), .val (.ref a2), .val (.int (0 : Int32)), .val (.int (0 : Int32)), .val (.int (0 : Int32))] [(.int (0 : Int32)), (.int (0 : Int32))]))
    refine Done.step (fun t k => XS.icmpYes X103.here hx rfl (pc0 := 12) (pc' := 52) rfl (hb hby d4_12) rfl (flt (by decide)).2.1 (by decide) (by decide) k) ?_
    show Done p e below s _ _ _ (T103.setTop (mkF m 52 #[.val (.ref a1), .val (.ref a2), .val (.int (0 : Int32)), .val (.int (0 : Int32)), .val (.int (0 : Int32))] []))
    refine Done.step (fun t k => XS.iloadN X103.here hx rfl (hb hby d4_52) rfl k) ?_
    show Done p e below s _ _ _ (T103.setTop (mkF m 53 #[.val (.ref a1), .val (.ref a2), .val (.int (0 : Int32)), .val (.int (0 : Int32)), .val (.int (0 : Int32))] [(.int (0 : Int32))]))
    refine Done.step (fun t k => XS.ifYes X103.here hx rfl (pc0 := 53) (pc' := 77) rfl (hb hby d4_53) rfl ((if0 _ _).trans (flt (by decide)).2.2.2) (by decide) (by decide) k) ?_
    show Done p e below s _ _ _ (T103.setTop (mkF m 77 #[.val (.ref a1), .val (.ref a2), .val (.int (0 : Int32)), .val (.int (0 : Int32)), .val (.int (0 : Int32))] []))
    refine Done.step (fun t k => XS.iconst X103.here hx rfl (hb hby d4_77) k) ?_
    show Done p e below s _ _ _ (T103.setTop (mkF m 78 #[.val (.ref a1), .val (.ref a2), .val (.int (0 : Int32)), .val (.int (0 : Int32)), .val (.int (0 : Int32))] [(.int (0 : Int32))]))
    exact Done.narr X103 hx hlk hret (by simp) (hb hby d4_78) (by decide) (by decide) ⟨by rw [← he, show CV1 v0 v1 cc = (0 : Int32) from by unfold CV1; rw [if_pos c1]] <;> rfl, N0, e103⟩
  · refine Done.step (fun t k => XS.icmpNo X103.here hx rfl (hb hby d4_35) rfl (flt c1).2.2.1 k) ?_
    show Done p e below s _ _ _ (T103.setTop (mkF m 38 #[.val (.ref a1), .val (.ref a2), .val (.int (0 : Int32)), .val (.int (1 : Int32)), .val (.int (0 : Int32))] []))
    refine Done.step (fun t k => XS.iload X103.here hx rfl (hb hby d4_38) rfl k) ?_
    show Done p e below s _ _ _ (T103.setTop (mkF m 40 #[.val (.ref a1), .val (.ref a2), .val (.int (0 : Int32)), .val (.int (1 : Int32)), .val (.int (0 : Int32))] [(.int (0 : Int32))]))
    refine Done.step (fun t k => XS.iconst X103.here hx rfl (hb hby d4_40) k) ?_
    show Done p e below s _ _ _ (T103.setTop (mkF m 41 #[.val (.ref a1), .val (.ref a2), .val (.int (0 : Int32)), .val (.int (1 : Int32)), .val (.int (0 : Int32))] [(.int (1 : Int32)), (.int (0 : Int32))]))
    refine Done.step (fun t k => XS.iadd X103.here hx rfl (hb hby d4_41) rfl k) ?_
    show Done p e below s _ _ _ (T103.setTop (mkF m 42 #[.val (.ref a1), .val (.ref a2), .val (.int (0 : Int32)), .val (.int (1 : Int32)), .val (.int (0 : Int32))] [(.int ((0 : Int32) + (1 : Int32)))]))
    rw [show ((0 : Int32) + (1 : Int32)) = (1 : Int32) from by decide]
    show Done p e below s _ _ _ (T103.setTop (mkF m 42 #[.val (.ref a1), .val (.ref a2), .val (.int (0 : Int32)), .val (.int (1 : Int32)), .val (.int (0 : Int32))] [(.int (1 : Int32))]))
    refine Done.step (fun t k => XS.istoreN X103.here hx rfl (hb hby d4_42) rfl (l' := #[.val (.ref a1), .val (.ref a2), .val (.int (1 : Int32)), .val (.int (1 : Int32)), .val (.int (0 : Int32))]) rfl k) ?_
    show Done p e below s _ _ _ (T103.setTop (mkF m 43 #[.val (.ref a1), .val (.ref a2), .val (.int (1 : Int32)), .val (.int (1 : Int32)), .val (.int (0 : Int32))] []))
    refine Done.step (fun t k => XS.goto X103.here hx rfl (pc0 := 43) (pc' := 49) rfl (hb hby d4_43) (by decide) (by decide) k) ?_
    show Done p e below s _ _ _ (T103.setTop (mkF m 49 #[.val (.ref a1), .val (.ref a2), .val (.int (1 : Int32)), .val (.int (1 : Int32)), .val (.int (0 : Int32))] []))
    refine Done.step (fun t k => XS.goto X103.here hx rfl (pc0 := 49) (pc' := 10) rfl (hb hby d4_49) (by decide) (by decide) k) ?_
    show Done p e below s _ _ _ (T103.setTop (mkF m 10 #[.val (.ref a1), .val (.ref a2), .val (.int (1 : Int32)), .val (.int (1 : Int32)), .val (.int (0 : Int32))] []))
    refine Done.step (fun t k => XS.iloadN X103.here hx rfl (hb hby d4_10) rfl k) ?_
    show Done p e below s _ _ _ (T103.setTop (mkF m 11 #[.val (.ref a1), .val (.ref a2), .val (.int (1 : Int32)), .val (.int (1 : Int32)), .val (.int (0 : Int32))] [(.int (1 : Int32))]))
    refine Done.step (fun t k => XS.iloadN X103.here hx rfl (hb hby d4_11) rfl k) ?_
    show Done p e below s _ _ _ (T103.setTop (mkF m 12 #[.val (.ref a1), .val (.ref a2), .val (.int (1 : Int32)), .val (.int (1 : Int32)), .val (.int (0 : Int32))] [(.int (1 : Int32)), (.int (1 : Int32))]))
    refine Done.step (fun t k => XS.icmpYes X103.here hx rfl (pc0 := 12) (pc' := 52) rfl (hb hby d4_12) rfl (flt (by decide)).2.1 (by decide) (by decide) k) ?_
    show Done p e below s _ _ _ (T103.setTop (mkF m 52 #[.val (.ref a1), .val (.ref a2), .val (.int (1 : Int32)), .val (.int (1 : Int32)), .val (.int (0 : Int32))] []))
    refine Done.step (fun t k => XS.iloadN X103.here hx rfl (hb hby d4_52) rfl k) ?_
    show Done p e below s _ _ _ (T103.setTop (mkF m 53 #[.val (.ref a1), .val (.ref a2), .val (.int (1 : Int32)), .val (.int (1 : Int32)), .val (.int (0 : Int32))] [(.int (1 : Int32))]))
    refine Done.step (fun t k => XS.ifNo X103.here hx rfl (hb hby d4_53) rfl ((if0 _ _).trans (tlt (by decide)).2.2.2) k) ?_
    show Done p e below s _ _ _ (T103.setTop (mkF m 56 #[.val (.ref a1), .val (.ref a2), .val (.int (1 : Int32)), .val (.int (1 : Int32)), .val (.int (0 : Int32))] []))
    refine Done.step (fun t k => XS.aloadN X103.here hx rfl (hb hby d4_56) rfl rfl k) ?_
    show Done p e below s _ _ _ (T103.setTop (mkF m 57 #[.val (.ref a1), .val (.ref a2), .val (.int (1 : Int32)), .val (.int (1 : Int32)), .val (.int (0 : Int32))] [(.ref a2)]))
    obtain ⟨T104, X104, e104, st104⟩ := getF X103 hx hZ hown (host := "") (Or.inl (hw _ (List.mem_of_getElem? (i := 28) rfl))) Via.refl e103 F2 (g := (mkF m 57 #[.val (.ref a1), .val (.ref a2), .val (.int (1 : Int32)), .val (.int (1 : Int32)), .val (.int (0 : Int32))] [(.ref a2)])) rfl rfl (hb hby d4_57)
    refine Done.step st104 ?_
    show Done p e below s _ _ _ (T104.setTop (mkF m 60 #[.val (.ref a1), .val (.ref a2), .val (.int (1 : Int32)), .val (.int (1 : Int32)), .val (.int (0 : Int32))] [(.int cc)]))
    refine Done.step (fun t k => XS.aloadN X104.here hx rfl (hb hby d4_60) rfl rfl k) ?_
    show Done p e below s _ _ _ (T104.setTop (mkF m 61 #[.val (.ref a1), .val (.ref a2), .val (.int (1 : Int32)), .val (.int (1 : Int32)), .val (.int (0 : Int32))] [(.ref a1), (.int cc)]))
    obtain ⟨T105, X105, e105, st105⟩ := getF X104 hx hZ hown (host := "") (Or.inl (hw _ (List.mem_of_getElem? (i := 30) rfl))) Via.refl e104 F1 (g := (mkF m 61 #[.val (.ref a1), .val (.ref a2), .val (.int (1 : Int32)), .val (.int (1 : Int32)), .val (.int (0 : Int32))] [(.ref a1), (.int cc)])) rfl rfl (hb hby d4_61)
    refine Done.step st105 ?_
    show Done p e below s _ _ _ (T105.setTop (mkF m 64 #[.val (.ref a1), .val (.ref a2), .val (.int (1 : Int32)), .val (.int (1 : Int32)), .val (.int (0 : Int32))] [(.ref ar), (.int cc)]))
    refine Done.step (fun t k => XS.iconst X105.here hx rfl (hb hby d4_64) k) ?_
    show Done p e below s _ _ _ (T105.setTop (mkF m 65 #[.val (.ref a1), .val (.ref a2), .val (.int (1 : Int32)), .val (.int (1 : Int32)), .val (.int (0 : Int32))] [(.int (2 : Int32)), (.ref ar), (.int cc)]))
    refine Done.step (fun t k => XS.iloadN X105.here hx rfl (hb hby d4_65) rfl k) ?_
    show Done p e below s _ _ _ (T105.setTop (mkF m 66 #[.val (.ref a1), .val (.ref a2), .val (.int (1 : Int32)), .val (.int (1 : Int32)), .val (.int (0 : Int32))] [(.int (1 : Int32)), (.int (2 : Int32)), (.ref ar), (.int cc)]))
    refine Done.step (fun t k => XS.imul X105.here hx rfl (hb hby d4_66) rfl k) ?_
    show Done p e below s _ _ _ (T105.setTop (mkF m 67 #[.val (.ref a1), .val (.ref a2), .val (.int (1 : Int32)), .val (.int (1 : Int32)), .val (.int (0 : Int32))] [(.int ((2 : Int32) * (1 : Int32))), (.ref ar), (.int cc)]))
    rw [show ((2 : Int32) * (1 : Int32)) = (2 : Int32) from by decide]
    show Done p e below s _ _ _ (T105.setTop (mkF m 67 #[.val (.ref a1), .val (.ref a2), .val (.int (1 : Int32)), .val (.int (1 : Int32)), .val (.int (0 : Int32))] [(.int (2 : Int32)), (.ref ar), (.int cc)]))
    refine Done.step (fun t k => XS.iconst X105.here hx rfl (hb hby d4_67) k) ?_
    show Done p e below s _ _ _ (T105.setTop (mkF m 68 #[.val (.ref a1), .val (.ref a2), .val (.int (1 : Int32)), .val (.int (1 : Int32)), .val (.int (0 : Int32))] [(.int (1 : Int32)), (.int (2 : Int32)), (.ref ar), (.int cc)]))
    refine Done.step (fun t k => XS.isub X105.here hx rfl (hb hby d4_68) rfl k) ?_
    show Done p e below s _ _ _ (T105.setTop (mkF m 69 #[.val (.ref a1), .val (.ref a2), .val (.int (1 : Int32)), .val (.int (1 : Int32)), .val (.int (0 : Int32))] [(.int ((2 : Int32) - (1 : Int32))), (.ref ar), (.int cc)]))
    rw [show ((2 : Int32) - (1 : Int32)) = (1 : Int32) from by decide]
    show Done p e below s _ _ _ (T105.setTop (mkF m 69 #[.val (.ref a1), .val (.ref a2), .val (.int (1 : Int32)), .val (.int (1 : Int32)), .val (.int (0 : Int32))] [(.int (1 : Int32)), (.ref ar), (.int cc)]))
    refine Done.step (ldI X105 hx hZ e105 A1 (j := (1 : Int32)) (x := (.int v1)) (by decide) rfl (g := (mkF m 69 #[.val (.ref a1), .val (.ref a2), .val (.int (1 : Int32)), .val (.int (1 : Int32)), .val (.int (0 : Int32))] [(.int (1 : Int32)), (.ref ar), (.int cc)])) rfl rfl (hb hby d4_69)) ?_
    show Done p e below s _ _ _ (T105.setTop (mkF m 70 #[.val (.ref a1), .val (.ref a2), .val (.int (1 : Int32)), .val (.int (1 : Int32)), .val (.int (0 : Int32))] [(.int v1), (.int cc)]))
    by_cases c2 : cc < v1
    · refine Done.step (fun t k => XS.icmpNo X105.here hx rfl (hb hby d4_70) rfl (tlt c2).2.1 k) ?_
      show Done p e below s _ _ _ (T105.setTop (mkF m 73 #[.val (.ref a1), .val (.ref a2), .val (.int (1 : Int32)), .val (.int (1 : Int32)), .val (.int (0 : Int32))] []))
      refine Done.step (fun t k => XS.iconst X105.here hx rfl (hb hby d4_73) k) ?_
      show Done p e below s _ _ _ (T105.setTop (mkF m 74 #[.val (.ref a1), .val (.ref a2), .val (.int (1 : Int32)), .val (.int (1 : Int32)), .val (.int (0 : Int32))] [(.int (1 : Int32))]))
      refine Done.step (fun t k => XS.goto X105.here hx rfl (pc0 := 74) (pc' := 78) rfl (hb hby d4_74) (by decide) (by decide) k) ?_
      show Done p e below s _ _ _ (T105.setTop (mkF m 78 #[.val (.ref a1), .val (.ref a2), .val (.int (1 : Int32)), .val (.int (1 : Int32)), .val (.int (0 : Int32))] [(.int (1 : Int32))]))
      exact Done.narr X105 hx hlk hret (by simp) (hb hby d4_78) (by decide) (by decide) ⟨by rw [← he, show CV1 v0 v1 cc = (1 : Int32) from by unfold CV1; rw [if_neg c1, if_pos c2]] <;> rfl, N0, e105⟩
    · refine Done.step (fun t k => XS.icmpYes X105.here hx rfl (pc0 := 70) (pc' := 77) rfl (hb hby d4_70) rfl (flt c2).2.1 (by decide) (by decide) k) ?_
      show Done p e below s _ _ _ (T105.setTop (mkF m 77 #[.val (.ref a1), .val (.ref a2), .val (.int (1 : Int32)), .val (.int (1 : Int32)), .val (.int (0 : Int32))] []))
      refine Done.step (fun t k => XS.iconst X105.here hx rfl (hb hby d4_77) k) ?_
      show Done p e below s _ _ _ (T105.setTop (mkF m 78 #[.val (.ref a1), .val (.ref a2), .val (.int (1 : Int32)), .val (.int (1 : Int32)), .val (.int (0 : Int32))] [(.int (0 : Int32))]))
      exact Done.narr X105 hx hlk hret (by simp) (hb hby d4_78) (by decide) (by decide) ⟨by rw [← he, show CV1 v0 v1 cc = (0 : Int32) from by unfold CV1; rw [if_neg c1, if_neg c2]] <;> rfl, N0, e105⟩
def CV2 (v0 v1 v2 v3 cc : Int32) : Int32 := (if cc < v2 then (if cc < v0 then (0 : Int32)
    else (if cc < v1 then (1 : Int32)
      else (0 : Int32)))
  else (if cc < v3 then (1 : Int32)
    else (0 : Int32)))
def Qrmc2 (Z : State) (a1 : Addr) (a2 : Addr) (ar : Addr) (v0 v1 v2 v3 cc ee : Int32) (h0 : Heap) (n0 : Nat) : Option Value → Heap → List Loc → Prop := fun v h L => v = some (.int ee) ∧ Fr n0 L ∧ h = h0
set_option maxRecDepth 65536 in
set_option maxHeartbeats 40000000 in
theorem rmc2 (l : Launch) (Z : State) (a0 : Array Value) (hw : ∀ d ∈ tables_1, d.before a0 Z = true) (ws : List Jvm.Cond) (a1 : Addr) (a2 : Addr) (ar : Addr) (v0 v1 v2 v3 cc ee : Int32) (h0 : Heap) (n0 : Nat) (Z0 : n0 ≤ h0.size) (F1 : Fld Z h0 a1 "com/example/ruled_ledger/ruledledger/model/CatchHandler" "ranges" "[I" (.ref ar)) (A1 : Ax Z h0 ar .int [(.int v0), (.int v1), (.int v2), (.int v3)]) (F2 : Fld Z h0 a2 "com/example/ruled_ledger/ruledledger/model/CatchHandler" "codeStart" "I" (.int cc)) (he : CV2 v0 v1 v2 v3 cc = ee) :
    MetFree l (⟨"com/example/ruled_ledger/ruledledger/model/CatchHandler", "coversCodeOf", "(Lcom/example/ruled_ledger/ruledledger/model/CatchHandler;)Z"⟩ : MethodName) (head1 (Jvm.Cond.code (⟨"com/example/ruled_ledger/ruledledger/model/CatchHandler", "coversCodeOf", "(Lcom/example/ruled_ledger/ruledledger/model/CatchHandler;)Z"⟩ : MethodName) prog_13_method_4_code 5 (some .boolean) :: ws) ({ frames := 0, cells := 0, slots := 0, locals := 0 } : Room)) (fun a U => a = #[(.ref a1), (.ref a2)] ∧ Z.Warmed39 U.vm ∧ U.heap = h0) (fun _ _ _ _ _ => True) (fun _ U o U' => ∃ v L, o = .returned v ∧ Qrmc2 Z a1 a2 ar v0 v1 v2 v3 cc ee h0 n0 v U'.heap L ∧ FrameEnd U o U' L ({ frames := 0, cells := 0, slots := 0, locals := 0 } : Room).cells ({ frames := 0, cells := 0, slots := 0, locals := 0 } : Room).slots) := by
  refine MetFree.of_bodySF (plainFor_of_name pn_4) hisR ?_
  intro p e s m args below meth c s₁ Bd hml0 hP hK
  obtain ⟨rfl, hZ, hhp⟩ := hP
  have hx := Bd.exec
  have hby := Bd.bytes
  have hml : c.maxLocals = 5 := hml0
  have hown : s.vm.findClass "com/example/ruled_ledger/ruledledger/model/CatchHandler" = some m.cls := findClass_of_methodNamed Bd.named
  have hnm := (name_of_methodNamed Bd.named Bd.method).1
  have hlk : meth.locks = false := BodyLoose.notSynchronized Bd
  have hret := Bd.returns
  have X0 : Stand p l e ({ frames := 0, cells := 0, slots := 0, locals := 0 } : Room) s m #[(.ref a1), (.ref a2)] below meth c s₁ [] 0 0 := Stand.of_body Bd
  have e0 : s₁.heap = h0 := by rw [← hhp, Bd.state]; rfl
  have N0 := Fr.nil n0
  show Done p e below s (Qrmc2 Z a1 a2 ar v0 v1 v2 v3 cc ee h0 n0) ({ frames := 0, cells := 0, slots := 0, locals := 0 } : Room).cells ({ frames := 0, cells := 0, slots := 0, locals := 0 } : Room).slots (s₁.setTop (entryFrame m #[(.ref a1), (.ref a2)] 5))
  refine Done.step (fun t k => castTop (ef_4 m a1 a2) k) ?_
  show Done p e below s _ _ _ (s₁.setTop (mkF m 0 #[.val (.ref a1), .val (.ref a2), .unset, .unset, .unset] []))
  refine Done.step (fun t k => XS.iconst X0.here hx rfl (hb hby d4_0) k) ?_
  show Done p e below s _ _ _ (s₁.setTop (mkF m 1 #[.val (.ref a1), .val (.ref a2), .unset, .unset, .unset] [(.int (0 : Int32))]))
  refine Done.step (fun t k => XS.istoreN X0.here hx rfl (hb hby d4_1) rfl (l' := #[.val (.ref a1), .val (.ref a2), .val (.int (0 : Int32)), .unset, .unset]) rfl k) ?_
  show Done p e below s _ _ _ (s₁.setTop (mkF m 2 #[.val (.ref a1), .val (.ref a2), .val (.int (0 : Int32)), .unset, .unset] []))
  refine Done.step (fun t k => XS.aloadN X0.here hx rfl (hb hby d4_2) rfl rfl k) ?_
  show Done p e below s _ _ _ (s₁.setTop (mkF m 3 #[.val (.ref a1), .val (.ref a2), .val (.int (0 : Int32)), .unset, .unset] [(.ref a1)]))
  obtain ⟨T101, X101, e101, st101⟩ := getF X0 hx hZ hown (host := "") (Or.inl (hw _ (List.mem_of_getElem? (i := 30) rfl))) Via.refl e0 F1 (g := (mkF m 3 #[.val (.ref a1), .val (.ref a2), .val (.int (0 : Int32)), .unset, .unset] [(.ref a1)])) rfl rfl (hb hby d4_3)
  refine Done.step st101 ?_
  show Done p e below s _ _ _ (T101.setTop (mkF m 6 #[.val (.ref a1), .val (.ref a2), .val (.int (0 : Int32)), .unset, .unset] [(.ref ar)]))
  refine Done.step (lenA X101 hx hZ e101 A1 (n := (4 : Int32)) rfl (g := (mkF m 6 #[.val (.ref a1), .val (.ref a2), .val (.int (0 : Int32)), .unset, .unset] [(.ref ar)])) rfl rfl (hb hby d4_6)) ?_
  show Done p e below s _ _ _ (T101.setTop (mkF m 7 #[.val (.ref a1), .val (.ref a2), .val (.int (0 : Int32)), .unset, .unset] [(.int (4 : Int32))]))
  refine Done.step (fun t k => XS.iconst X101.here hx rfl (hb hby d4_7) k) ?_
  show Done p e below s _ _ _ (T101.setTop (mkF m 8 #[.val (.ref a1), .val (.ref a2), .val (.int (0 : Int32)), .unset, .unset] [(.int (2 : Int32)), (.int (4 : Int32))]))
  refine Done.step (fun t k => XS.idiv X101.here hx rfl (hb hby d4_8) rfl (by decide) k) ?_
  show Done p e below s _ _ _ (T101.setTop (mkF m 9 #[.val (.ref a1), .val (.ref a2), .val (.int (0 : Int32)), .unset, .unset] [(.int ((4 : Int32) / (2 : Int32)))]))
  rw [show ((4 : Int32) / (2 : Int32)) = (2 : Int32) from by decide]
  show Done p e below s _ _ _ (T101.setTop (mkF m 9 #[.val (.ref a1), .val (.ref a2), .val (.int (0 : Int32)), .unset, .unset] [(.int (2 : Int32))]))
  refine Done.step (fun t k => XS.istoreN X101.here hx rfl (hb hby d4_9) rfl (l' := #[.val (.ref a1), .val (.ref a2), .val (.int (0 : Int32)), .val (.int (2 : Int32)), .unset]) rfl k) ?_
  show Done p e below s _ _ _ (T101.setTop (mkF m 10 #[.val (.ref a1), .val (.ref a2), .val (.int (0 : Int32)), .val (.int (2 : Int32)), .unset] []))
  refine Done.step (fun t k => XS.iloadN X101.here hx rfl (hb hby d4_10) rfl k) ?_
  show Done p e below s _ _ _ (T101.setTop (mkF m 11 #[.val (.ref a1), .val (.ref a2), .val (.int (0 : Int32)), .val (.int (2 : Int32)), .unset] [(.int (0 : Int32))]))
  refine Done.step (fun t k => XS.iloadN X101.here hx rfl (hb hby d4_11) rfl k) ?_
  show Done p e below s _ _ _ (T101.setTop (mkF m 12 #[.val (.ref a1), .val (.ref a2), .val (.int (0 : Int32)), .val (.int (2 : Int32)), .unset] [(.int (2 : Int32)), (.int (0 : Int32))]))
  refine Done.step (fun t k => XS.icmpNo X101.here hx rfl (hb hby d4_12) rfl (tlt (by decide)).2.1 k) ?_
  show Done p e below s _ _ _ (T101.setTop (mkF m 15 #[.val (.ref a1), .val (.ref a2), .val (.int (0 : Int32)), .val (.int (2 : Int32)), .unset] []))
  refine Done.step (fun t k => XS.iloadN X101.here hx rfl (hb hby d4_15) rfl k) ?_
  show Done p e below s _ _ _ (T101.setTop (mkF m 16 #[.val (.ref a1), .val (.ref a2), .val (.int (0 : Int32)), .val (.int (2 : Int32)), .unset] [(.int (0 : Int32))]))
  refine Done.step (fun t k => XS.iloadN X101.here hx rfl (hb hby d4_16) rfl k) ?_
  show Done p e below s _ _ _ (T101.setTop (mkF m 17 #[.val (.ref a1), .val (.ref a2), .val (.int (0 : Int32)), .val (.int (2 : Int32)), .unset] [(.int (2 : Int32)), (.int (0 : Int32))]))
  refine Done.step (fun t k => XS.iadd X101.here hx rfl (hb hby d4_17) rfl k) ?_
  show Done p e below s _ _ _ (T101.setTop (mkF m 18 #[.val (.ref a1), .val (.ref a2), .val (.int (0 : Int32)), .val (.int (2 : Int32)), .unset] [(.int ((0 : Int32) + (2 : Int32)))]))
  rw [show ((0 : Int32) + (2 : Int32)) = (2 : Int32) from by decide]
  show Done p e below s _ _ _ (T101.setTop (mkF m 18 #[.val (.ref a1), .val (.ref a2), .val (.int (0 : Int32)), .val (.int (2 : Int32)), .unset] [(.int (2 : Int32))]))
  refine Done.step (fun t k => XS.iconst X101.here hx rfl (hb hby d4_18) k) ?_
  show Done p e below s _ _ _ (T101.setTop (mkF m 19 #[.val (.ref a1), .val (.ref a2), .val (.int (0 : Int32)), .val (.int (2 : Int32)), .unset] [(.int (1 : Int32)), (.int (2 : Int32))]))
  refine Done.step (fun t k => XS.iushr X101.here hx rfl (hb hby d4_19) rfl k) ?_
  show Done p e below s _ _ _ (T101.setTop (mkF m 20 #[.val (.ref a1), .val (.ref a2), .val (.int (0 : Int32)), .val (.int (2 : Int32)), .unset] [(.int (((2 : Int32).toUInt32 >>> ((1 : Int32) &&& 31).toUInt32).toInt32))]))
  rw [show (((2 : Int32).toUInt32 >>> ((1 : Int32) &&& 31).toUInt32).toInt32) = (1 : Int32) from by decide]
  show Done p e below s _ _ _ (T101.setTop (mkF m 20 #[.val (.ref a1), .val (.ref a2), .val (.int (0 : Int32)), .val (.int (2 : Int32)), .unset] [(.int (1 : Int32))]))
  refine Done.step (fun t k => XS.istore X101.here hx rfl (hb hby d4_20) rfl (l' := #[.val (.ref a1), .val (.ref a2), .val (.int (0 : Int32)), .val (.int (2 : Int32)), .val (.int (1 : Int32))]) rfl k) ?_
  show Done p e below s _ _ _ (T101.setTop (mkF m 22 #[.val (.ref a1), .val (.ref a2), .val (.int (0 : Int32)), .val (.int (2 : Int32)), .val (.int (1 : Int32))] []))
  refine Done.step (fun t k => XS.aloadN X101.here hx rfl (hb hby d4_22) rfl rfl k) ?_
  show Done p e below s _ _ _ (T101.setTop (mkF m 23 #[.val (.ref a1), .val (.ref a2), .val (.int (0 : Int32)), .val (.int (2 : Int32)), .val (.int (1 : Int32))] [(.ref a1)]))
  obtain ⟨T102, X102, e102, st102⟩ := getF X101 hx hZ hown (host := "") (Or.inl (hw _ (List.mem_of_getElem? (i := 30) rfl))) Via.refl e101 F1 (g := (mkF m 23 #[.val (.ref a1), .val (.ref a2), .val (.int (0 : Int32)), .val (.int (2 : Int32)), .val (.int (1 : Int32))] [(.ref a1)])) rfl rfl (hb hby d4_23)
  refine Done.step st102 ?_
  show Done p e below s _ _ _ (T102.setTop (mkF m 26 #[.val (.ref a1), .val (.ref a2), .val (.int (0 : Int32)), .val (.int (2 : Int32)), .val (.int (1 : Int32))] [(.ref ar)]))
  refine Done.step (fun t k => XS.iconst X102.here hx rfl (hb hby d4_26) k) ?_
  show Done p e below s _ _ _ (T102.setTop (mkF m 27 #[.val (.ref a1), .val (.ref a2), .val (.int (0 : Int32)), .val (.int (2 : Int32)), .val (.int (1 : Int32))] [(.int (2 : Int32)), (.ref ar)]))
  refine Done.step (fun t k => XS.iload X102.here hx rfl (hb hby d4_27) rfl k) ?_
  show Done p e below s _ _ _ (T102.setTop (mkF m 29 #[.val (.ref a1), .val (.ref a2), .val (.int (0 : Int32)), .val (.int (2 : Int32)), .val (.int (1 : Int32))] [(.int (1 : Int32)), (.int (2 : Int32)), (.ref ar)]))
  refine Done.step (fun t k => XS.imul X102.here hx rfl (hb hby d4_29) rfl k) ?_
  show Done p e below s _ _ _ (T102.setTop (mkF m 30 #[.val (.ref a1), .val (.ref a2), .val (.int (0 : Int32)), .val (.int (2 : Int32)), .val (.int (1 : Int32))] [(.int ((2 : Int32) * (1 : Int32))), (.ref ar)]))
  rw [show ((2 : Int32) * (1 : Int32)) = (2 : Int32) from by decide]
  show Done p e below s _ _ _ (T102.setTop (mkF m 30 #[.val (.ref a1), .val (.ref a2), .val (.int (0 : Int32)), .val (.int (2 : Int32)), .val (.int (1 : Int32))] [(.int (2 : Int32)), (.ref ar)]))
  refine Done.step (ldI X102 hx hZ e102 A1 (j := (2 : Int32)) (x := (.int v2)) (by decide) rfl (g := (mkF m 30 #[.val (.ref a1), .val (.ref a2), .val (.int (0 : Int32)), .val (.int (2 : Int32)), .val (.int (1 : Int32))] [(.int (2 : Int32)), (.ref ar)])) rfl rfl (hb hby d4_30)) ?_
  show Done p e below s _ _ _ (T102.setTop (mkF m 31 #[.val (.ref a1), .val (.ref a2), .val (.int (0 : Int32)), .val (.int (2 : Int32)), .val (.int (1 : Int32))] [(.int v2)]))
  refine Done.step (fun t k => XS.aloadN X102.here hx rfl (hb hby d4_31) rfl rfl k) ?_
  show Done p e below s _ _ _ (T102.setTop (mkF m 32 #[.val (.ref a1), .val (.ref a2), .val (.int (0 : Int32)), .val (.int (2 : Int32)), .val (.int (1 : Int32))] [(.ref a2), (.int v2)]))
  obtain ⟨T103, X103, e103, st103⟩ := getF X102 hx hZ hown (host := "") (Or.inl (hw _ (List.mem_of_getElem? (i := 28) rfl))) Via.refl e102 F2 (g := (mkF m 32 #[.val (.ref a1), .val (.ref a2), .val (.int (0 : Int32)), .val (.int (2 : Int32)), .val (.int (1 : Int32))] [(.ref a2), (.int v2)])) rfl rfl (hb hby d4_32)
  refine Done.step st103 ?_
  show Done p e below s _ _ _ (T103.setTop (mkF m 35 #[.val (.ref a1), .val (.ref a2), .val (.int (0 : Int32)), .val (.int (2 : Int32)), .val (.int (1 : Int32))] [(.int cc), (.int v2)]))
  by_cases c1 : cc < v2
  · refine Done.step (fun t k => XS.icmpYes X103.here hx rfl (pc0 := 35) (pc' := 46) rfl (hb hby d4_35) rfl (tlt c1).2.2.1 (by decide) (by decide) k) ?_
    show Done p e below s _ _ _ (T103.setTop (mkF m 46 #[.val (.ref a1), .val (.ref a2), .val (.int (0 : Int32)), .val (.int (2 : Int32)), .val (.int (1 : Int32))] []))
    refine Done.step (fun t k => XS.iload X103.here hx rfl (hb hby d4_46) rfl k) ?_
    show Done p e below s _ _ _ (T103.setTop (mkF m 48 #[.val (.ref a1), .val (.ref a2), .val (.int (0 : Int32)), .val (.int (2 : Int32)), .val (.int (1 : Int32))] [(.int (1 : Int32))]))
    refine Done.step (fun t k => XS.istoreN X103.here hx rfl (hb hby d4_48) rfl (l' := #[.val (.ref a1), .val (.ref a2), .val (.int (0 : Int32)), .val (.int (1 : Int32)), .val (.int (1 : Int32))]) rfl k) ?_
    show Done p e below s _ _ _ (T103.setTop (mkF m 49 #[.val (.ref a1), .val (.ref a2), .val (.int (0 : Int32)), .val (.int (1 : Int32)), .val (.int (1 : Int32))] []))
    refine Done.step (fun t k => XS.goto X103.here hx rfl (pc0 := 49) (pc' := 10) rfl (hb hby d4_49) (by decide) (by decide) k) ?_
    show Done p e below s _ _ _ (T103.setTop (mkF m 10 #[.val (.ref a1), .val (.ref a2), .val (.int (0 : Int32)), .val (.int (1 : Int32)), .val (.int (1 : Int32))] []))
    refine Done.step (fun t k => XS.iloadN X103.here hx rfl (hb hby d4_10) rfl k) ?_
    show Done p e below s _ _ _ (T103.setTop (mkF m 11 #[.val (.ref a1), .val (.ref a2), .val (.int (0 : Int32)), .val (.int (1 : Int32)), .val (.int (1 : Int32))] [(.int (0 : Int32))]))
    refine Done.step (fun t k => XS.iloadN X103.here hx rfl (hb hby d4_11) rfl k) ?_
    show Done p e below s _ _ _ (T103.setTop (mkF m 12 #[.val (.ref a1), .val (.ref a2), .val (.int (0 : Int32)), .val (.int (1 : Int32)), .val (.int (1 : Int32))] [(.int (1 : Int32)), (.int (0 : Int32))]))
    refine Done.step (fun t k => XS.icmpNo X103.here hx rfl (hb hby d4_12) rfl (tlt (by decide)).2.1 k) ?_
    show Done p e below s _ _ _ (T103.setTop (mkF m 15 #[.val (.ref a1), .val (.ref a2), .val (.int (0 : Int32)), .val (.int (1 : Int32)), .val (.int (1 : Int32))] []))
    refine Done.step (fun t k => XS.iloadN X103.here hx rfl (hb hby d4_15) rfl k) ?_
    show Done p e below s _ _ _ (T103.setTop (mkF m 16 #[.val (.ref a1), .val (.ref a2), .val (.int (0 : Int32)), .val (.int (1 : Int32)), .val (.int (1 : Int32))] [(.int (0 : Int32))]))
    refine Done.step (fun t k => XS.iloadN X103.here hx rfl (hb hby d4_16) rfl k) ?_
    show Done p e below s _ _ _ (T103.setTop (mkF m 17 #[.val (.ref a1), .val (.ref a2), .val (.int (0 : Int32)), .val (.int (1 : Int32)), .val (.int (1 : Int32))] [(.int (1 : Int32)), (.int (0 : Int32))]))
    refine Done.step (fun t k => XS.iadd X103.here hx rfl (hb hby d4_17) rfl k) ?_
    show Done p e below s _ _ _ (T103.setTop (mkF m 18 #[.val (.ref a1), .val (.ref a2), .val (.int (0 : Int32)), .val (.int (1 : Int32)), .val (.int (1 : Int32))] [(.int ((0 : Int32) + (1 : Int32)))]))
    rw [show ((0 : Int32) + (1 : Int32)) = (1 : Int32) from by decide]
    show Done p e below s _ _ _ (T103.setTop (mkF m 18 #[.val (.ref a1), .val (.ref a2), .val (.int (0 : Int32)), .val (.int (1 : Int32)), .val (.int (1 : Int32))] [(.int (1 : Int32))]))
    refine Done.step (fun t k => XS.iconst X103.here hx rfl (hb hby d4_18) k) ?_
    show Done p e below s _ _ _ (T103.setTop (mkF m 19 #[.val (.ref a1), .val (.ref a2), .val (.int (0 : Int32)), .val (.int (1 : Int32)), .val (.int (1 : Int32))] [(.int (1 : Int32)), (.int (1 : Int32))]))
    refine Done.step (fun t k => XS.iushr X103.here hx rfl (hb hby d4_19) rfl k) ?_
    show Done p e below s _ _ _ (T103.setTop (mkF m 20 #[.val (.ref a1), .val (.ref a2), .val (.int (0 : Int32)), .val (.int (1 : Int32)), .val (.int (1 : Int32))] [(.int (((1 : Int32).toUInt32 >>> ((1 : Int32) &&& 31).toUInt32).toInt32))]))
    rw [show (((1 : Int32).toUInt32 >>> ((1 : Int32) &&& 31).toUInt32).toInt32) = (0 : Int32) from by decide]
    show Done p e below s _ _ _ (T103.setTop (mkF m 20 #[.val (.ref a1), .val (.ref a2), .val (.int (0 : Int32)), .val (.int (1 : Int32)), .val (.int (1 : Int32))] [(.int (0 : Int32))]))
    refine Done.step (fun t k => XS.istore X103.here hx rfl (hb hby d4_20) rfl (l' := #[.val (.ref a1), .val (.ref a2), .val (.int (0 : Int32)), .val (.int (1 : Int32)), .val (.int (0 : Int32))]) rfl k) ?_
    show Done p e below s _ _ _ (T103.setTop (mkF m 22 #[.val (.ref a1), .val (.ref a2), .val (.int (0 : Int32)), .val (.int (1 : Int32)), .val (.int (0 : Int32))] []))
    refine Done.step (fun t k => XS.aloadN X103.here hx rfl (hb hby d4_22) rfl rfl k) ?_
    show Done p e below s _ _ _ (T103.setTop (mkF m 23 #[.val (.ref a1), .val (.ref a2), .val (.int (0 : Int32)), .val (.int (1 : Int32)), .val (.int (0 : Int32))] [(.ref a1)]))
    obtain ⟨T104, X104, e104, st104⟩ := getF X103 hx hZ hown (host := "") (Or.inl (hw _ (List.mem_of_getElem? (i := 30) rfl))) Via.refl e103 F1 (g := (mkF m 23 #[.val (.ref a1), .val (.ref a2), .val (.int (0 : Int32)), .val (.int (1 : Int32)), .val (.int (0 : Int32))] [(.ref a1)])) rfl rfl (hb hby d4_23)
    refine Done.step st104 ?_
    show Done p e below s _ _ _ (T104.setTop (mkF m 26 #[.val (.ref a1), .val (.ref a2), .val (.int (0 : Int32)), .val (.int (1 : Int32)), .val (.int (0 : Int32))] [(.ref ar)]))
    refine Done.step (fun t k => XS.iconst X104.here hx rfl (hb hby d4_26) k) ?_
    show Done p e below s _ _ _ (T104.setTop (mkF m 27 #[.val (.ref a1), .val (.ref a2), .val (.int (0 : Int32)), .val (.int (1 : Int32)), .val (.int (0 : Int32))] [(.int (2 : Int32)), (.ref ar)]))
    refine Done.step (fun t k => XS.iload X104.here hx rfl (hb hby d4_27) rfl k) ?_
    show Done p e below s _ _ _ (T104.setTop (mkF m 29 #[.val (.ref a1), .val (.ref a2), .val (.int (0 : Int32)), .val (.int (1 : Int32)), .val (.int (0 : Int32))] [(.int (0 : Int32)), (.int (2 : Int32)), (.ref ar)]))
    refine Done.step (fun t k => XS.imul X104.here hx rfl (hb hby d4_29) rfl k) ?_
    show Done p e below s _ _ _ (T104.setTop (mkF m 30 #[.val (.ref a1), .val (.ref a2), .val (.int (0 : Int32)), .val (.int (1 : Int32)), .val (.int (0 : Int32))] [(.int ((2 : Int32) * (0 : Int32))), (.ref ar)]))
    rw [show ((2 : Int32) * (0 : Int32)) = (0 : Int32) from by decide]
    show Done p e below s _ _ _ (T104.setTop (mkF m 30 #[.val (.ref a1), .val (.ref a2), .val (.int (0 : Int32)), .val (.int (1 : Int32)), .val (.int (0 : Int32))] [(.int (0 : Int32)), (.ref ar)]))
    refine Done.step (ldI X104 hx hZ e104 A1 (j := (0 : Int32)) (x := (.int v0)) (by decide) rfl (g := (mkF m 30 #[.val (.ref a1), .val (.ref a2), .val (.int (0 : Int32)), .val (.int (1 : Int32)), .val (.int (0 : Int32))] [(.int (0 : Int32)), (.ref ar)])) rfl rfl (hb hby d4_30)) ?_
    show Done p e below s _ _ _ (T104.setTop (mkF m 31 #[.val (.ref a1), .val (.ref a2), .val (.int (0 : Int32)), .val (.int (1 : Int32)), .val (.int (0 : Int32))] [(.int v0)]))
    refine Done.step (fun t k => XS.aloadN X104.here hx rfl (hb hby d4_31) rfl rfl k) ?_
    show Done p e below s _ _ _ (T104.setTop (mkF m 32 #[.val (.ref a1), .val (.ref a2), .val (.int (0 : Int32)), .val (.int (1 : Int32)), .val (.int (0 : Int32))] [(.ref a2), (.int v0)]))
    obtain ⟨T105, X105, e105, st105⟩ := getF X104 hx hZ hown (host := "") (Or.inl (hw _ (List.mem_of_getElem? (i := 28) rfl))) Via.refl e104 F2 (g := (mkF m 32 #[.val (.ref a1), .val (.ref a2), .val (.int (0 : Int32)), .val (.int (1 : Int32)), .val (.int (0 : Int32))] [(.ref a2), (.int v0)])) rfl rfl (hb hby d4_32)
    refine Done.step st105 ?_
    show Done p e below s _ _ _ (T105.setTop (mkF m 35 #[.val (.ref a1), .val (.ref a2), .val (.int (0 : Int32)), .val (.int (1 : Int32)), .val (.int (0 : Int32))] [(.int cc), (.int v0)]))
    by_cases c2 : cc < v0
    · refine Done.step (fun t k => XS.icmpYes X105.here hx rfl (pc0 := 35) (pc' := 46) rfl (hb hby d4_35) rfl (tlt c2).2.2.1 (by decide) (by decide) k) ?_
      show Done p e below s _ _ _ (T105.setTop (mkF m 46 #[.val (.ref a1), .val (.ref a2), .val (.int (0 : Int32)), .val (.int (1 : Int32)), .val (.int (0 : Int32))] []))
      refine Done.step (fun t k => XS.iload X105.here hx rfl (hb hby d4_46) rfl k) ?_
      show Done p e below s _ _ _ (T105.setTop (mkF m 48 #[.val (.ref a1), .val (.ref a2), .val (.int (0 : Int32)), .val (.int (1 : Int32)), .val (.int (0 : Int32))] [(.int (0 : Int32))]))
      refine Done.step (fun t k => XS.istoreN X105.here hx rfl (hb hby d4_48) rfl (l' := #[.val (.ref a1), .val (.ref a2), .val (.int (0 : Int32)), .val (.int (0 : Int32)), .val (.int (0 : Int32))]) rfl k) ?_
      show Done p e below s _ _ _ (T105.setTop (mkF m 49 #[.val (.ref a1), .val (.ref a2), .val (.int (0 : Int32)), .val (.int (0 : Int32)), .val (.int (0 : Int32))] []))
      refine Done.step (fun t k => XS.goto X105.here hx rfl (pc0 := 49) (pc' := 10) rfl (hb hby d4_49) (by decide) (by decide) k) ?_
      show Done p e below s _ _ _ (T105.setTop (mkF m 10 #[.val (.ref a1), .val (.ref a2), .val (.int (0 : Int32)), .val (.int (0 : Int32)), .val (.int (0 : Int32))] []))
      refine Done.step (fun t k => XS.iloadN X105.here hx rfl (hb hby d4_10) rfl k) ?_
      show Done p e below s _ _ _ (T105.setTop (mkF m 11 #[.val (.ref a1), .val (.ref a2), .val (.int (0 : Int32)), .val (.int (0 : Int32)), .val (.int (0 : Int32))] [(.int (0 : Int32))]))
      refine Done.step (fun t k => XS.iloadN X105.here hx rfl (hb hby d4_11) rfl k) ?_
      show Done p e below s _ _ _ (T105.setTop (mkF m 12 #[.val (.ref a1), .val (.ref a2), .val (.int (0 : Int32)), .val (.int (0 : Int32)), .val (.int (0 : Int32))] [(.int (0 : Int32)), (.int (0 : Int32))]))
      refine Done.step (fun t k => XS.icmpYes X105.here hx rfl (pc0 := 12) (pc' := 52) rfl (hb hby d4_12) rfl (flt (by decide)).2.1 (by decide) (by decide) k) ?_
      show Done p e below s _ _ _ (T105.setTop (mkF m 52 #[.val (.ref a1), .val (.ref a2), .val (.int (0 : Int32)), .val (.int (0 : Int32)), .val (.int (0 : Int32))] []))
      refine Done.step (fun t k => XS.iloadN X105.here hx rfl (hb hby d4_52) rfl k) ?_
      show Done p e below s _ _ _ (T105.setTop (mkF m 53 #[.val (.ref a1), .val (.ref a2), .val (.int (0 : Int32)), .val (.int (0 : Int32)), .val (.int (0 : Int32))] [(.int (0 : Int32))]))
      refine Done.step (fun t k => XS.ifYes X105.here hx rfl (pc0 := 53) (pc' := 77) rfl (hb hby d4_53) rfl ((if0 _ _).trans (flt (by decide)).2.2.2) (by decide) (by decide) k) ?_
      show Done p e below s _ _ _ (T105.setTop (mkF m 77 #[.val (.ref a1), .val (.ref a2), .val (.int (0 : Int32)), .val (.int (0 : Int32)), .val (.int (0 : Int32))] []))
      refine Done.step (fun t k => XS.iconst X105.here hx rfl (hb hby d4_77) k) ?_
      show Done p e below s _ _ _ (T105.setTop (mkF m 78 #[.val (.ref a1), .val (.ref a2), .val (.int (0 : Int32)), .val (.int (0 : Int32)), .val (.int (0 : Int32))] [(.int (0 : Int32))]))
      exact Done.narr X105 hx hlk hret (by simp) (hb hby d4_78) (by decide) (by decide) ⟨by rw [← he, show CV2 v0 v1 v2 v3 cc = (0 : Int32) from by unfold CV2; rw [if_pos c1, if_pos c2]] <;> rfl, N0, e105⟩
    · refine Done.step (fun t k => XS.icmpNo X105.here hx rfl (hb hby d4_35) rfl (flt c2).2.2.1 k) ?_
      show Done p e below s _ _ _ (T105.setTop (mkF m 38 #[.val (.ref a1), .val (.ref a2), .val (.int (0 : Int32)), .val (.int (1 : Int32)), .val (.int (0 : Int32))] []))
      refine Done.step (fun t k => XS.iload X105.here hx rfl (hb hby d4_38) rfl k) ?_
      show Done p e below s _ _ _ (T105.setTop (mkF m 40 #[.val (.ref a1), .val (.ref a2), .val (.int (0 : Int32)), .val (.int (1 : Int32)), .val (.int (0 : Int32))] [(.int (0 : Int32))]))
      refine Done.step (fun t k => XS.iconst X105.here hx rfl (hb hby d4_40) k) ?_
      show Done p e below s _ _ _ (T105.setTop (mkF m 41 #[.val (.ref a1), .val (.ref a2), .val (.int (0 : Int32)), .val (.int (1 : Int32)), .val (.int (0 : Int32))] [(.int (1 : Int32)), (.int (0 : Int32))]))
      refine Done.step (fun t k => XS.iadd X105.here hx rfl (hb hby d4_41) rfl k) ?_
      show Done p e below s _ _ _ (T105.setTop (mkF m 42 #[.val (.ref a1), .val (.ref a2), .val (.int (0 : Int32)), .val (.int (1 : Int32)), .val (.int (0 : Int32))] [(.int ((0 : Int32) + (1 : Int32)))]))
      rw [show ((0 : Int32) + (1 : Int32)) = (1 : Int32) from by decide]
      show Done p e below s _ _ _ (T105.setTop (mkF m 42 #[.val (.ref a1), .val (.ref a2), .val (.int (0 : Int32)), .val (.int (1 : Int32)), .val (.int (0 : Int32))] [(.int (1 : Int32))]))
      refine Done.step (fun t k => XS.istoreN X105.here hx rfl (hb hby d4_42) rfl (l' := #[.val (.ref a1), .val (.ref a2), .val (.int (1 : Int32)), .val (.int (1 : Int32)), .val (.int (0 : Int32))]) rfl k) ?_
      show Done p e below s _ _ _ (T105.setTop (mkF m 43 #[.val (.ref a1), .val (.ref a2), .val (.int (1 : Int32)), .val (.int (1 : Int32)), .val (.int (0 : Int32))] []))
      refine Done.step (fun t k => XS.goto X105.here hx rfl (pc0 := 43) (pc' := 49) rfl (hb hby d4_43) (by decide) (by decide) k) ?_
      show Done p e below s _ _ _ (T105.setTop (mkF m 49 #[.val (.ref a1), .val (.ref a2), .val (.int (1 : Int32)), .val (.int (1 : Int32)), .val (.int (0 : Int32))] []))
      refine Done.step (fun t k => XS.goto X105.here hx rfl (pc0 := 49) (pc' := 10) rfl (hb hby d4_49) (by decide) (by decide) k) ?_
      show Done p e below s _ _ _ (T105.setTop (mkF m 10 #[.val (.ref a1), .val (.ref a2), .val (.int (1 : Int32)), .val (.int (1 : Int32)), .val (.int (0 : Int32))] []))
      refine Done.step (fun t k => XS.iloadN X105.here hx rfl (hb hby d4_10) rfl k) ?_
      show Done p e below s _ _ _ (T105.setTop (mkF m 11 #[.val (.ref a1), .val (.ref a2), .val (.int (1 : Int32)), .val (.int (1 : Int32)), .val (.int (0 : Int32))] [(.int (1 : Int32))]))
      refine Done.step (fun t k => XS.iloadN X105.here hx rfl (hb hby d4_11) rfl k) ?_
      show Done p e below s _ _ _ (T105.setTop (mkF m 12 #[.val (.ref a1), .val (.ref a2), .val (.int (1 : Int32)), .val (.int (1 : Int32)), .val (.int (0 : Int32))] [(.int (1 : Int32)), (.int (1 : Int32))]))
      refine Done.step (fun t k => XS.icmpYes X105.here hx rfl (pc0 := 12) (pc' := 52) rfl (hb hby d4_12) rfl (flt (by decide)).2.1 (by decide) (by decide) k) ?_
      show Done p e below s _ _ _ (T105.setTop (mkF m 52 #[.val (.ref a1), .val (.ref a2), .val (.int (1 : Int32)), .val (.int (1 : Int32)), .val (.int (0 : Int32))] []))
      refine Done.step (fun t k => XS.iloadN X105.here hx rfl (hb hby d4_52) rfl k) ?_
      show Done p e below s _ _ _ (T105.setTop (mkF m 53 #[.val (.ref a1), .val (.ref a2), .val (.int (1 : Int32)), .val (.int (1 : Int32)), .val (.int (0 : Int32))] [(.int (1 : Int32))]))
      refine Done.step (fun t k => XS.ifNo X105.here hx rfl (hb hby d4_53) rfl ((if0 _ _).trans (tlt (by decide)).2.2.2) k) ?_
      show Done p e below s _ _ _ (T105.setTop (mkF m 56 #[.val (.ref a1), .val (.ref a2), .val (.int (1 : Int32)), .val (.int (1 : Int32)), .val (.int (0 : Int32))] []))
      refine Done.step (fun t k => XS.aloadN X105.here hx rfl (hb hby d4_56) rfl rfl k) ?_
      show Done p e below s _ _ _ (T105.setTop (mkF m 57 #[.val (.ref a1), .val (.ref a2), .val (.int (1 : Int32)), .val (.int (1 : Int32)), .val (.int (0 : Int32))] [(.ref a2)]))
      obtain ⟨T106, X106, e106, st106⟩ := getF X105 hx hZ hown (host := "") (Or.inl (hw _ (List.mem_of_getElem? (i := 28) rfl))) Via.refl e105 F2 (g := (mkF m 57 #[.val (.ref a1), .val (.ref a2), .val (.int (1 : Int32)), .val (.int (1 : Int32)), .val (.int (0 : Int32))] [(.ref a2)])) rfl rfl (hb hby d4_57)
      refine Done.step st106 ?_
      show Done p e below s _ _ _ (T106.setTop (mkF m 60 #[.val (.ref a1), .val (.ref a2), .val (.int (1 : Int32)), .val (.int (1 : Int32)), .val (.int (0 : Int32))] [(.int cc)]))
      refine Done.step (fun t k => XS.aloadN X106.here hx rfl (hb hby d4_60) rfl rfl k) ?_
      show Done p e below s _ _ _ (T106.setTop (mkF m 61 #[.val (.ref a1), .val (.ref a2), .val (.int (1 : Int32)), .val (.int (1 : Int32)), .val (.int (0 : Int32))] [(.ref a1), (.int cc)]))
      obtain ⟨T107, X107, e107, st107⟩ := getF X106 hx hZ hown (host := "") (Or.inl (hw _ (List.mem_of_getElem? (i := 30) rfl))) Via.refl e106 F1 (g := (mkF m 61 #[.val (.ref a1), .val (.ref a2), .val (.int (1 : Int32)), .val (.int (1 : Int32)), .val (.int (0 : Int32))] [(.ref a1), (.int cc)])) rfl rfl (hb hby d4_61)
      refine Done.step st107 ?_
      show Done p e below s _ _ _ (T107.setTop (mkF m 64 #[.val (.ref a1), .val (.ref a2), .val (.int (1 : Int32)), .val (.int (1 : Int32)), .val (.int (0 : Int32))] [(.ref ar), (.int cc)]))
      refine Done.step (fun t k => XS.iconst X107.here hx rfl (hb hby d4_64) k) ?_
      show Done p e below s _ _ _ (T107.setTop (mkF m 65 #[.val (.ref a1), .val (.ref a2), .val (.int (1 : Int32)), .val (.int (1 : Int32)), .val (.int (0 : Int32))] [(.int (2 : Int32)), (.ref ar), (.int cc)]))
      refine Done.step (fun t k => XS.iloadN X107.here hx rfl (hb hby d4_65) rfl k) ?_
      show Done p e below s _ _ _ (T107.setTop (mkF m 66 #[.val (.ref a1), .val (.ref a2), .val (.int (1 : Int32)), .val (.int (1 : Int32)), .val (.int (0 : Int32))] [(.int (1 : Int32)), (.int (2 : Int32)), (.ref ar), (.int cc)]))
      refine Done.step (fun t k => XS.imul X107.here hx rfl (hb hby d4_66) rfl k) ?_
      show Done p e below s _ _ _ (T107.setTop (mkF m 67 #[.val (.ref a1), .val (.ref a2), .val (.int (1 : Int32)), .val (.int (1 : Int32)), .val (.int (0 : Int32))] [(.int ((2 : Int32) * (1 : Int32))), (.ref ar), (.int cc)]))
      rw [show ((2 : Int32) * (1 : Int32)) = (2 : Int32) from by decide]
      show Done p e below s _ _ _ (T107.setTop (mkF m 67 #[.val (.ref a1), .val (.ref a2), .val (.int (1 : Int32)), .val (.int (1 : Int32)), .val (.int (0 : Int32))] [(.int (2 : Int32)), (.ref ar), (.int cc)]))
      refine Done.step (fun t k => XS.iconst X107.here hx rfl (hb hby d4_67) k) ?_
      show Done p e below s _ _ _ (T107.setTop (mkF m 68 #[.val (.ref a1), .val (.ref a2), .val (.int (1 : Int32)), .val (.int (1 : Int32)), .val (.int (0 : Int32))] [(.int (1 : Int32)), (.int (2 : Int32)), (.ref ar), (.int cc)]))
      refine Done.step (fun t k => XS.isub X107.here hx rfl (hb hby d4_68) rfl k) ?_
      show Done p e below s _ _ _ (T107.setTop (mkF m 69 #[.val (.ref a1), .val (.ref a2), .val (.int (1 : Int32)), .val (.int (1 : Int32)), .val (.int (0 : Int32))] [(.int ((2 : Int32) - (1 : Int32))), (.ref ar), (.int cc)]))
      rw [show ((2 : Int32) - (1 : Int32)) = (1 : Int32) from by decide]
      show Done p e below s _ _ _ (T107.setTop (mkF m 69 #[.val (.ref a1), .val (.ref a2), .val (.int (1 : Int32)), .val (.int (1 : Int32)), .val (.int (0 : Int32))] [(.int (1 : Int32)), (.ref ar), (.int cc)]))
      refine Done.step (ldI X107 hx hZ e107 A1 (j := (1 : Int32)) (x := (.int v1)) (by decide) rfl (g := (mkF m 69 #[.val (.ref a1), .val (.ref a2), .val (.int (1 : Int32)), .val (.int (1 : Int32)), .val (.int (0 : Int32))] [(.int (1 : Int32)), (.ref ar), (.int cc)])) rfl rfl (hb hby d4_69)) ?_
      show Done p e below s _ _ _ (T107.setTop (mkF m 70 #[.val (.ref a1), .val (.ref a2), .val (.int (1 : Int32)), .val (.int (1 : Int32)), .val (.int (0 : Int32))] [(.int v1), (.int cc)]))
      by_cases c3 : cc < v1
      · refine Done.step (fun t k => XS.icmpNo X107.here hx rfl (hb hby d4_70) rfl (tlt c3).2.1 k) ?_
        show Done p e below s _ _ _ (T107.setTop (mkF m 73 #[.val (.ref a1), .val (.ref a2), .val (.int (1 : Int32)), .val (.int (1 : Int32)), .val (.int (0 : Int32))] []))
        refine Done.step (fun t k => XS.iconst X107.here hx rfl (hb hby d4_73) k) ?_
        show Done p e below s _ _ _ (T107.setTop (mkF m 74 #[.val (.ref a1), .val (.ref a2), .val (.int (1 : Int32)), .val (.int (1 : Int32)), .val (.int (0 : Int32))] [(.int (1 : Int32))]))
        refine Done.step (fun t k => XS.goto X107.here hx rfl (pc0 := 74) (pc' := 78) rfl (hb hby d4_74) (by decide) (by decide) k) ?_
        show Done p e below s _ _ _ (T107.setTop (mkF m 78 #[.val (.ref a1), .val (.ref a2), .val (.int (1 : Int32)), .val (.int (1 : Int32)), .val (.int (0 : Int32))] [(.int (1 : Int32))]))
        exact Done.narr X107 hx hlk hret (by simp) (hb hby d4_78) (by decide) (by decide) ⟨by rw [← he, show CV2 v0 v1 v2 v3 cc = (1 : Int32) from by unfold CV2; rw [if_pos c1, if_neg c2, if_pos c3]] <;> rfl, N0, e107⟩
      · refine Done.step (fun t k => XS.icmpYes X107.here hx rfl (pc0 := 70) (pc' := 77) rfl (hb hby d4_70) rfl (flt c3).2.1 (by decide) (by decide) k) ?_
        show Done p e below s _ _ _ (T107.setTop (mkF m 77 #[.val (.ref a1), .val (.ref a2), .val (.int (1 : Int32)), .val (.int (1 : Int32)), .val (.int (0 : Int32))] []))
        refine Done.step (fun t k => XS.iconst X107.here hx rfl (hb hby d4_77) k) ?_
        show Done p e below s _ _ _ (T107.setTop (mkF m 78 #[.val (.ref a1), .val (.ref a2), .val (.int (1 : Int32)), .val (.int (1 : Int32)), .val (.int (0 : Int32))] [(.int (0 : Int32))]))
        exact Done.narr X107 hx hlk hret (by simp) (hb hby d4_78) (by decide) (by decide) ⟨by rw [← he, show CV2 v0 v1 v2 v3 cc = (0 : Int32) from by unfold CV2; rw [if_pos c1, if_neg c2, if_neg c3]] <;> rfl, N0, e107⟩
  · refine Done.step (fun t k => XS.icmpNo X103.here hx rfl (hb hby d4_35) rfl (flt c1).2.2.1 k) ?_
    show Done p e below s _ _ _ (T103.setTop (mkF m 38 #[.val (.ref a1), .val (.ref a2), .val (.int (0 : Int32)), .val (.int (2 : Int32)), .val (.int (1 : Int32))] []))
    refine Done.step (fun t k => XS.iload X103.here hx rfl (hb hby d4_38) rfl k) ?_
    show Done p e below s _ _ _ (T103.setTop (mkF m 40 #[.val (.ref a1), .val (.ref a2), .val (.int (0 : Int32)), .val (.int (2 : Int32)), .val (.int (1 : Int32))] [(.int (1 : Int32))]))
    refine Done.step (fun t k => XS.iconst X103.here hx rfl (hb hby d4_40) k) ?_
    show Done p e below s _ _ _ (T103.setTop (mkF m 41 #[.val (.ref a1), .val (.ref a2), .val (.int (0 : Int32)), .val (.int (2 : Int32)), .val (.int (1 : Int32))] [(.int (1 : Int32)), (.int (1 : Int32))]))
    refine Done.step (fun t k => XS.iadd X103.here hx rfl (hb hby d4_41) rfl k) ?_
    show Done p e below s _ _ _ (T103.setTop (mkF m 42 #[.val (.ref a1), .val (.ref a2), .val (.int (0 : Int32)), .val (.int (2 : Int32)), .val (.int (1 : Int32))] [(.int ((1 : Int32) + (1 : Int32)))]))
    rw [show ((1 : Int32) + (1 : Int32)) = (2 : Int32) from by decide]
    show Done p e below s _ _ _ (T103.setTop (mkF m 42 #[.val (.ref a1), .val (.ref a2), .val (.int (0 : Int32)), .val (.int (2 : Int32)), .val (.int (1 : Int32))] [(.int (2 : Int32))]))
    refine Done.step (fun t k => XS.istoreN X103.here hx rfl (hb hby d4_42) rfl (l' := #[.val (.ref a1), .val (.ref a2), .val (.int (2 : Int32)), .val (.int (2 : Int32)), .val (.int (1 : Int32))]) rfl k) ?_
    show Done p e below s _ _ _ (T103.setTop (mkF m 43 #[.val (.ref a1), .val (.ref a2), .val (.int (2 : Int32)), .val (.int (2 : Int32)), .val (.int (1 : Int32))] []))
    refine Done.step (fun t k => XS.goto X103.here hx rfl (pc0 := 43) (pc' := 49) rfl (hb hby d4_43) (by decide) (by decide) k) ?_
    show Done p e below s _ _ _ (T103.setTop (mkF m 49 #[.val (.ref a1), .val (.ref a2), .val (.int (2 : Int32)), .val (.int (2 : Int32)), .val (.int (1 : Int32))] []))
    refine Done.step (fun t k => XS.goto X103.here hx rfl (pc0 := 49) (pc' := 10) rfl (hb hby d4_49) (by decide) (by decide) k) ?_
    show Done p e below s _ _ _ (T103.setTop (mkF m 10 #[.val (.ref a1), .val (.ref a2), .val (.int (2 : Int32)), .val (.int (2 : Int32)), .val (.int (1 : Int32))] []))
    refine Done.step (fun t k => XS.iloadN X103.here hx rfl (hb hby d4_10) rfl k) ?_
    show Done p e below s _ _ _ (T103.setTop (mkF m 11 #[.val (.ref a1), .val (.ref a2), .val (.int (2 : Int32)), .val (.int (2 : Int32)), .val (.int (1 : Int32))] [(.int (2 : Int32))]))
    refine Done.step (fun t k => XS.iloadN X103.here hx rfl (hb hby d4_11) rfl k) ?_
    show Done p e below s _ _ _ (T103.setTop (mkF m 12 #[.val (.ref a1), .val (.ref a2), .val (.int (2 : Int32)), .val (.int (2 : Int32)), .val (.int (1 : Int32))] [(.int (2 : Int32)), (.int (2 : Int32))]))
    refine Done.step (fun t k => XS.icmpYes X103.here hx rfl (pc0 := 12) (pc' := 52) rfl (hb hby d4_12) rfl (flt (by decide)).2.1 (by decide) (by decide) k) ?_
    show Done p e below s _ _ _ (T103.setTop (mkF m 52 #[.val (.ref a1), .val (.ref a2), .val (.int (2 : Int32)), .val (.int (2 : Int32)), .val (.int (1 : Int32))] []))
    refine Done.step (fun t k => XS.iloadN X103.here hx rfl (hb hby d4_52) rfl k) ?_
    show Done p e below s _ _ _ (T103.setTop (mkF m 53 #[.val (.ref a1), .val (.ref a2), .val (.int (2 : Int32)), .val (.int (2 : Int32)), .val (.int (1 : Int32))] [(.int (2 : Int32))]))
    refine Done.step (fun t k => XS.ifNo X103.here hx rfl (hb hby d4_53) rfl ((if0 _ _).trans (tlt (by decide)).2.2.2) k) ?_
    show Done p e below s _ _ _ (T103.setTop (mkF m 56 #[.val (.ref a1), .val (.ref a2), .val (.int (2 : Int32)), .val (.int (2 : Int32)), .val (.int (1 : Int32))] []))
    refine Done.step (fun t k => XS.aloadN X103.here hx rfl (hb hby d4_56) rfl rfl k) ?_
    show Done p e below s _ _ _ (T103.setTop (mkF m 57 #[.val (.ref a1), .val (.ref a2), .val (.int (2 : Int32)), .val (.int (2 : Int32)), .val (.int (1 : Int32))] [(.ref a2)]))
    obtain ⟨T108, X108, e108, st108⟩ := getF X103 hx hZ hown (host := "") (Or.inl (hw _ (List.mem_of_getElem? (i := 28) rfl))) Via.refl e103 F2 (g := (mkF m 57 #[.val (.ref a1), .val (.ref a2), .val (.int (2 : Int32)), .val (.int (2 : Int32)), .val (.int (1 : Int32))] [(.ref a2)])) rfl rfl (hb hby d4_57)
    refine Done.step st108 ?_
    show Done p e below s _ _ _ (T108.setTop (mkF m 60 #[.val (.ref a1), .val (.ref a2), .val (.int (2 : Int32)), .val (.int (2 : Int32)), .val (.int (1 : Int32))] [(.int cc)]))
    refine Done.step (fun t k => XS.aloadN X108.here hx rfl (hb hby d4_60) rfl rfl k) ?_
    show Done p e below s _ _ _ (T108.setTop (mkF m 61 #[.val (.ref a1), .val (.ref a2), .val (.int (2 : Int32)), .val (.int (2 : Int32)), .val (.int (1 : Int32))] [(.ref a1), (.int cc)]))
    obtain ⟨T109, X109, e109, st109⟩ := getF X108 hx hZ hown (host := "") (Or.inl (hw _ (List.mem_of_getElem? (i := 30) rfl))) Via.refl e108 F1 (g := (mkF m 61 #[.val (.ref a1), .val (.ref a2), .val (.int (2 : Int32)), .val (.int (2 : Int32)), .val (.int (1 : Int32))] [(.ref a1), (.int cc)])) rfl rfl (hb hby d4_61)
    refine Done.step st109 ?_
    show Done p e below s _ _ _ (T109.setTop (mkF m 64 #[.val (.ref a1), .val (.ref a2), .val (.int (2 : Int32)), .val (.int (2 : Int32)), .val (.int (1 : Int32))] [(.ref ar), (.int cc)]))
    refine Done.step (fun t k => XS.iconst X109.here hx rfl (hb hby d4_64) k) ?_
    show Done p e below s _ _ _ (T109.setTop (mkF m 65 #[.val (.ref a1), .val (.ref a2), .val (.int (2 : Int32)), .val (.int (2 : Int32)), .val (.int (1 : Int32))] [(.int (2 : Int32)), (.ref ar), (.int cc)]))
    refine Done.step (fun t k => XS.iloadN X109.here hx rfl (hb hby d4_65) rfl k) ?_
    show Done p e below s _ _ _ (T109.setTop (mkF m 66 #[.val (.ref a1), .val (.ref a2), .val (.int (2 : Int32)), .val (.int (2 : Int32)), .val (.int (1 : Int32))] [(.int (2 : Int32)), (.int (2 : Int32)), (.ref ar), (.int cc)]))
    refine Done.step (fun t k => XS.imul X109.here hx rfl (hb hby d4_66) rfl k) ?_
    show Done p e below s _ _ _ (T109.setTop (mkF m 67 #[.val (.ref a1), .val (.ref a2), .val (.int (2 : Int32)), .val (.int (2 : Int32)), .val (.int (1 : Int32))] [(.int ((2 : Int32) * (2 : Int32))), (.ref ar), (.int cc)]))
    rw [show ((2 : Int32) * (2 : Int32)) = (4 : Int32) from by decide]
    show Done p e below s _ _ _ (T109.setTop (mkF m 67 #[.val (.ref a1), .val (.ref a2), .val (.int (2 : Int32)), .val (.int (2 : Int32)), .val (.int (1 : Int32))] [(.int (4 : Int32)), (.ref ar), (.int cc)]))
    refine Done.step (fun t k => XS.iconst X109.here hx rfl (hb hby d4_67) k) ?_
    show Done p e below s _ _ _ (T109.setTop (mkF m 68 #[.val (.ref a1), .val (.ref a2), .val (.int (2 : Int32)), .val (.int (2 : Int32)), .val (.int (1 : Int32))] [(.int (1 : Int32)), (.int (4 : Int32)), (.ref ar), (.int cc)]))
    refine Done.step (fun t k => XS.isub X109.here hx rfl (hb hby d4_68) rfl k) ?_
    show Done p e below s _ _ _ (T109.setTop (mkF m 69 #[.val (.ref a1), .val (.ref a2), .val (.int (2 : Int32)), .val (.int (2 : Int32)), .val (.int (1 : Int32))] [(.int ((4 : Int32) - (1 : Int32))), (.ref ar), (.int cc)]))
    rw [show ((4 : Int32) - (1 : Int32)) = (3 : Int32) from by decide]
    show Done p e below s _ _ _ (T109.setTop (mkF m 69 #[.val (.ref a1), .val (.ref a2), .val (.int (2 : Int32)), .val (.int (2 : Int32)), .val (.int (1 : Int32))] [(.int (3 : Int32)), (.ref ar), (.int cc)]))
    refine Done.step (ldI X109 hx hZ e109 A1 (j := (3 : Int32)) (x := (.int v3)) (by decide) rfl (g := (mkF m 69 #[.val (.ref a1), .val (.ref a2), .val (.int (2 : Int32)), .val (.int (2 : Int32)), .val (.int (1 : Int32))] [(.int (3 : Int32)), (.ref ar), (.int cc)])) rfl rfl (hb hby d4_69)) ?_
    show Done p e below s _ _ _ (T109.setTop (mkF m 70 #[.val (.ref a1), .val (.ref a2), .val (.int (2 : Int32)), .val (.int (2 : Int32)), .val (.int (1 : Int32))] [(.int v3), (.int cc)]))
    by_cases c4 : cc < v3
    · refine Done.step (fun t k => XS.icmpNo X109.here hx rfl (hb hby d4_70) rfl (tlt c4).2.1 k) ?_
      show Done p e below s _ _ _ (T109.setTop (mkF m 73 #[.val (.ref a1), .val (.ref a2), .val (.int (2 : Int32)), .val (.int (2 : Int32)), .val (.int (1 : Int32))] []))
      refine Done.step (fun t k => XS.iconst X109.here hx rfl (hb hby d4_73) k) ?_
      show Done p e below s _ _ _ (T109.setTop (mkF m 74 #[.val (.ref a1), .val (.ref a2), .val (.int (2 : Int32)), .val (.int (2 : Int32)), .val (.int (1 : Int32))] [(.int (1 : Int32))]))
      refine Done.step (fun t k => XS.goto X109.here hx rfl (pc0 := 74) (pc' := 78) rfl (hb hby d4_74) (by decide) (by decide) k) ?_
      show Done p e below s _ _ _ (T109.setTop (mkF m 78 #[.val (.ref a1), .val (.ref a2), .val (.int (2 : Int32)), .val (.int (2 : Int32)), .val (.int (1 : Int32))] [(.int (1 : Int32))]))
      exact Done.narr X109 hx hlk hret (by simp) (hb hby d4_78) (by decide) (by decide) ⟨by rw [← he, show CV2 v0 v1 v2 v3 cc = (1 : Int32) from by unfold CV2; rw [if_neg c1, if_pos c4]] <;> rfl, N0, e109⟩
    · refine Done.step (fun t k => XS.icmpYes X109.here hx rfl (pc0 := 70) (pc' := 77) rfl (hb hby d4_70) rfl (flt c4).2.1 (by decide) (by decide) k) ?_
      show Done p e below s _ _ _ (T109.setTop (mkF m 77 #[.val (.ref a1), .val (.ref a2), .val (.int (2 : Int32)), .val (.int (2 : Int32)), .val (.int (1 : Int32))] []))
      refine Done.step (fun t k => XS.iconst X109.here hx rfl (hb hby d4_77) k) ?_
      show Done p e below s _ _ _ (T109.setTop (mkF m 78 #[.val (.ref a1), .val (.ref a2), .val (.int (2 : Int32)), .val (.int (2 : Int32)), .val (.int (1 : Int32))] [(.int (0 : Int32))]))
      exact Done.narr X109 hx hlk hret (by simp) (hb hby d4_78) (by decide) (by decide) ⟨by rw [← he, show CV2 v0 v1 v2 v3 cc = (0 : Int32) from by unfold CV2; rw [if_neg c1, if_neg c4]] <;> rfl, N0, e109⟩
def CV3 (v0 v1 v2 v3 v4 v5 cc : Int32) : Int32 := (if cc < v2 then (if cc < v0 then (0 : Int32)
    else (if cc < v1 then (1 : Int32)
      else (0 : Int32)))
  else (if cc < v4 then (if cc < v3 then (1 : Int32)
      else (0 : Int32))
    else (if cc < v5 then (1 : Int32)
      else (0 : Int32))))
def Qrmc3 (Z : State) (a1 : Addr) (a2 : Addr) (ar : Addr) (v0 v1 v2 v3 v4 v5 cc ee : Int32) (h0 : Heap) (n0 : Nat) : Option Value → Heap → List Loc → Prop := fun v h L => v = some (.int ee) ∧ Fr n0 L ∧ h = h0
set_option maxRecDepth 65536 in
set_option maxHeartbeats 40000000 in
theorem rmc3 (l : Launch) (Z : State) (a0 : Array Value) (hw : ∀ d ∈ tables_1, d.before a0 Z = true) (ws : List Jvm.Cond) (a1 : Addr) (a2 : Addr) (ar : Addr) (v0 v1 v2 v3 v4 v5 cc ee : Int32) (h0 : Heap) (n0 : Nat) (Z0 : n0 ≤ h0.size) (F1 : Fld Z h0 a1 "com/example/ruled_ledger/ruledledger/model/CatchHandler" "ranges" "[I" (.ref ar)) (A1 : Ax Z h0 ar .int [(.int v0), (.int v1), (.int v2), (.int v3), (.int v4), (.int v5)]) (F2 : Fld Z h0 a2 "com/example/ruled_ledger/ruledledger/model/CatchHandler" "codeStart" "I" (.int cc)) (he : CV3 v0 v1 v2 v3 v4 v5 cc = ee) :
    MetFree l (⟨"com/example/ruled_ledger/ruledledger/model/CatchHandler", "coversCodeOf", "(Lcom/example/ruled_ledger/ruledledger/model/CatchHandler;)Z"⟩ : MethodName) (head1 (Jvm.Cond.code (⟨"com/example/ruled_ledger/ruledledger/model/CatchHandler", "coversCodeOf", "(Lcom/example/ruled_ledger/ruledledger/model/CatchHandler;)Z"⟩ : MethodName) prog_13_method_4_code 5 (some .boolean) :: ws) ({ frames := 0, cells := 0, slots := 0, locals := 0 } : Room)) (fun a U => a = #[(.ref a1), (.ref a2)] ∧ Z.Warmed39 U.vm ∧ U.heap = h0) (fun _ _ _ _ _ => True) (fun _ U o U' => ∃ v L, o = .returned v ∧ Qrmc3 Z a1 a2 ar v0 v1 v2 v3 v4 v5 cc ee h0 n0 v U'.heap L ∧ FrameEnd U o U' L ({ frames := 0, cells := 0, slots := 0, locals := 0 } : Room).cells ({ frames := 0, cells := 0, slots := 0, locals := 0 } : Room).slots) := by
  refine MetFree.of_bodySF (plainFor_of_name pn_4) hisR ?_
  intro p e s m args below meth c s₁ Bd hml0 hP hK
  obtain ⟨rfl, hZ, hhp⟩ := hP
  have hx := Bd.exec
  have hby := Bd.bytes
  have hml : c.maxLocals = 5 := hml0
  have hown : s.vm.findClass "com/example/ruled_ledger/ruledledger/model/CatchHandler" = some m.cls := findClass_of_methodNamed Bd.named
  have hnm := (name_of_methodNamed Bd.named Bd.method).1
  have hlk : meth.locks = false := BodyLoose.notSynchronized Bd
  have hret := Bd.returns
  have X0 : Stand p l e ({ frames := 0, cells := 0, slots := 0, locals := 0 } : Room) s m #[(.ref a1), (.ref a2)] below meth c s₁ [] 0 0 := Stand.of_body Bd
  have e0 : s₁.heap = h0 := by rw [← hhp, Bd.state]; rfl
  have N0 := Fr.nil n0
  show Done p e below s (Qrmc3 Z a1 a2 ar v0 v1 v2 v3 v4 v5 cc ee h0 n0) ({ frames := 0, cells := 0, slots := 0, locals := 0 } : Room).cells ({ frames := 0, cells := 0, slots := 0, locals := 0 } : Room).slots (s₁.setTop (entryFrame m #[(.ref a1), (.ref a2)] 5))
  refine Done.step (fun t k => castTop (ef_4 m a1 a2) k) ?_
  show Done p e below s _ _ _ (s₁.setTop (mkF m 0 #[.val (.ref a1), .val (.ref a2), .unset, .unset, .unset] []))
  refine Done.step (fun t k => XS.iconst X0.here hx rfl (hb hby d4_0) k) ?_
  show Done p e below s _ _ _ (s₁.setTop (mkF m 1 #[.val (.ref a1), .val (.ref a2), .unset, .unset, .unset] [(.int (0 : Int32))]))
  refine Done.step (fun t k => XS.istoreN X0.here hx rfl (hb hby d4_1) rfl (l' := #[.val (.ref a1), .val (.ref a2), .val (.int (0 : Int32)), .unset, .unset]) rfl k) ?_
  show Done p e below s _ _ _ (s₁.setTop (mkF m 2 #[.val (.ref a1), .val (.ref a2), .val (.int (0 : Int32)), .unset, .unset] []))
  refine Done.step (fun t k => XS.aloadN X0.here hx rfl (hb hby d4_2) rfl rfl k) ?_
  show Done p e below s _ _ _ (s₁.setTop (mkF m 3 #[.val (.ref a1), .val (.ref a2), .val (.int (0 : Int32)), .unset, .unset] [(.ref a1)]))
  obtain ⟨T101, X101, e101, st101⟩ := getF X0 hx hZ hown (host := "") (Or.inl (hw _ (List.mem_of_getElem? (i := 30) rfl))) Via.refl e0 F1 (g := (mkF m 3 #[.val (.ref a1), .val (.ref a2), .val (.int (0 : Int32)), .unset, .unset] [(.ref a1)])) rfl rfl (hb hby d4_3)
  refine Done.step st101 ?_
  show Done p e below s _ _ _ (T101.setTop (mkF m 6 #[.val (.ref a1), .val (.ref a2), .val (.int (0 : Int32)), .unset, .unset] [(.ref ar)]))
  refine Done.step (lenA X101 hx hZ e101 A1 (n := (6 : Int32)) rfl (g := (mkF m 6 #[.val (.ref a1), .val (.ref a2), .val (.int (0 : Int32)), .unset, .unset] [(.ref ar)])) rfl rfl (hb hby d4_6)) ?_
  show Done p e below s _ _ _ (T101.setTop (mkF m 7 #[.val (.ref a1), .val (.ref a2), .val (.int (0 : Int32)), .unset, .unset] [(.int (6 : Int32))]))
  refine Done.step (fun t k => XS.iconst X101.here hx rfl (hb hby d4_7) k) ?_
  show Done p e below s _ _ _ (T101.setTop (mkF m 8 #[.val (.ref a1), .val (.ref a2), .val (.int (0 : Int32)), .unset, .unset] [(.int (2 : Int32)), (.int (6 : Int32))]))
  refine Done.step (fun t k => XS.idiv X101.here hx rfl (hb hby d4_8) rfl (by decide) k) ?_
  show Done p e below s _ _ _ (T101.setTop (mkF m 9 #[.val (.ref a1), .val (.ref a2), .val (.int (0 : Int32)), .unset, .unset] [(.int ((6 : Int32) / (2 : Int32)))]))
  rw [show ((6 : Int32) / (2 : Int32)) = (3 : Int32) from by decide]
  show Done p e below s _ _ _ (T101.setTop (mkF m 9 #[.val (.ref a1), .val (.ref a2), .val (.int (0 : Int32)), .unset, .unset] [(.int (3 : Int32))]))
  refine Done.step (fun t k => XS.istoreN X101.here hx rfl (hb hby d4_9) rfl (l' := #[.val (.ref a1), .val (.ref a2), .val (.int (0 : Int32)), .val (.int (3 : Int32)), .unset]) rfl k) ?_
  show Done p e below s _ _ _ (T101.setTop (mkF m 10 #[.val (.ref a1), .val (.ref a2), .val (.int (0 : Int32)), .val (.int (3 : Int32)), .unset] []))
  refine Done.step (fun t k => XS.iloadN X101.here hx rfl (hb hby d4_10) rfl k) ?_
  show Done p e below s _ _ _ (T101.setTop (mkF m 11 #[.val (.ref a1), .val (.ref a2), .val (.int (0 : Int32)), .val (.int (3 : Int32)), .unset] [(.int (0 : Int32))]))
  refine Done.step (fun t k => XS.iloadN X101.here hx rfl (hb hby d4_11) rfl k) ?_
  show Done p e below s _ _ _ (T101.setTop (mkF m 12 #[.val (.ref a1), .val (.ref a2), .val (.int (0 : Int32)), .val (.int (3 : Int32)), .unset] [(.int (3 : Int32)), (.int (0 : Int32))]))
  refine Done.step (fun t k => XS.icmpNo X101.here hx rfl (hb hby d4_12) rfl (tlt (by decide)).2.1 k) ?_
  show Done p e below s _ _ _ (T101.setTop (mkF m 15 #[.val (.ref a1), .val (.ref a2), .val (.int (0 : Int32)), .val (.int (3 : Int32)), .unset] []))
  refine Done.step (fun t k => XS.iloadN X101.here hx rfl (hb hby d4_15) rfl k) ?_
  show Done p e below s _ _ _ (T101.setTop (mkF m 16 #[.val (.ref a1), .val (.ref a2), .val (.int (0 : Int32)), .val (.int (3 : Int32)), .unset] [(.int (0 : Int32))]))
  refine Done.step (fun t k => XS.iloadN X101.here hx rfl (hb hby d4_16) rfl k) ?_
  show Done p e below s _ _ _ (T101.setTop (mkF m 17 #[.val (.ref a1), .val (.ref a2), .val (.int (0 : Int32)), .val (.int (3 : Int32)), .unset] [(.int (3 : Int32)), (.int (0 : Int32))]))
  refine Done.step (fun t k => XS.iadd X101.here hx rfl (hb hby d4_17) rfl k) ?_
  show Done p e below s _ _ _ (T101.setTop (mkF m 18 #[.val (.ref a1), .val (.ref a2), .val (.int (0 : Int32)), .val (.int (3 : Int32)), .unset] [(.int ((0 : Int32) + (3 : Int32)))]))
  rw [show ((0 : Int32) + (3 : Int32)) = (3 : Int32) from by decide]
  show Done p e below s _ _ _ (T101.setTop (mkF m 18 #[.val (.ref a1), .val (.ref a2), .val (.int (0 : Int32)), .val (.int (3 : Int32)), .unset] [(.int (3 : Int32))]))
  refine Done.step (fun t k => XS.iconst X101.here hx rfl (hb hby d4_18) k) ?_
  show Done p e below s _ _ _ (T101.setTop (mkF m 19 #[.val (.ref a1), .val (.ref a2), .val (.int (0 : Int32)), .val (.int (3 : Int32)), .unset] [(.int (1 : Int32)), (.int (3 : Int32))]))
  refine Done.step (fun t k => XS.iushr X101.here hx rfl (hb hby d4_19) rfl k) ?_
  show Done p e below s _ _ _ (T101.setTop (mkF m 20 #[.val (.ref a1), .val (.ref a2), .val (.int (0 : Int32)), .val (.int (3 : Int32)), .unset] [(.int (((3 : Int32).toUInt32 >>> ((1 : Int32) &&& 31).toUInt32).toInt32))]))
  rw [show (((3 : Int32).toUInt32 >>> ((1 : Int32) &&& 31).toUInt32).toInt32) = (1 : Int32) from by decide]
  show Done p e below s _ _ _ (T101.setTop (mkF m 20 #[.val (.ref a1), .val (.ref a2), .val (.int (0 : Int32)), .val (.int (3 : Int32)), .unset] [(.int (1 : Int32))]))
  refine Done.step (fun t k => XS.istore X101.here hx rfl (hb hby d4_20) rfl (l' := #[.val (.ref a1), .val (.ref a2), .val (.int (0 : Int32)), .val (.int (3 : Int32)), .val (.int (1 : Int32))]) rfl k) ?_
  show Done p e below s _ _ _ (T101.setTop (mkF m 22 #[.val (.ref a1), .val (.ref a2), .val (.int (0 : Int32)), .val (.int (3 : Int32)), .val (.int (1 : Int32))] []))
  refine Done.step (fun t k => XS.aloadN X101.here hx rfl (hb hby d4_22) rfl rfl k) ?_
  show Done p e below s _ _ _ (T101.setTop (mkF m 23 #[.val (.ref a1), .val (.ref a2), .val (.int (0 : Int32)), .val (.int (3 : Int32)), .val (.int (1 : Int32))] [(.ref a1)]))
  obtain ⟨T102, X102, e102, st102⟩ := getF X101 hx hZ hown (host := "") (Or.inl (hw _ (List.mem_of_getElem? (i := 30) rfl))) Via.refl e101 F1 (g := (mkF m 23 #[.val (.ref a1), .val (.ref a2), .val (.int (0 : Int32)), .val (.int (3 : Int32)), .val (.int (1 : Int32))] [(.ref a1)])) rfl rfl (hb hby d4_23)
  refine Done.step st102 ?_
  show Done p e below s _ _ _ (T102.setTop (mkF m 26 #[.val (.ref a1), .val (.ref a2), .val (.int (0 : Int32)), .val (.int (3 : Int32)), .val (.int (1 : Int32))] [(.ref ar)]))
  refine Done.step (fun t k => XS.iconst X102.here hx rfl (hb hby d4_26) k) ?_
  show Done p e below s _ _ _ (T102.setTop (mkF m 27 #[.val (.ref a1), .val (.ref a2), .val (.int (0 : Int32)), .val (.int (3 : Int32)), .val (.int (1 : Int32))] [(.int (2 : Int32)), (.ref ar)]))
  refine Done.step (fun t k => XS.iload X102.here hx rfl (hb hby d4_27) rfl k) ?_
  show Done p e below s _ _ _ (T102.setTop (mkF m 29 #[.val (.ref a1), .val (.ref a2), .val (.int (0 : Int32)), .val (.int (3 : Int32)), .val (.int (1 : Int32))] [(.int (1 : Int32)), (.int (2 : Int32)), (.ref ar)]))
  refine Done.step (fun t k => XS.imul X102.here hx rfl (hb hby d4_29) rfl k) ?_
  show Done p e below s _ _ _ (T102.setTop (mkF m 30 #[.val (.ref a1), .val (.ref a2), .val (.int (0 : Int32)), .val (.int (3 : Int32)), .val (.int (1 : Int32))] [(.int ((2 : Int32) * (1 : Int32))), (.ref ar)]))
  rw [show ((2 : Int32) * (1 : Int32)) = (2 : Int32) from by decide]
  show Done p e below s _ _ _ (T102.setTop (mkF m 30 #[.val (.ref a1), .val (.ref a2), .val (.int (0 : Int32)), .val (.int (3 : Int32)), .val (.int (1 : Int32))] [(.int (2 : Int32)), (.ref ar)]))
  refine Done.step (ldI X102 hx hZ e102 A1 (j := (2 : Int32)) (x := (.int v2)) (by decide) rfl (g := (mkF m 30 #[.val (.ref a1), .val (.ref a2), .val (.int (0 : Int32)), .val (.int (3 : Int32)), .val (.int (1 : Int32))] [(.int (2 : Int32)), (.ref ar)])) rfl rfl (hb hby d4_30)) ?_
  show Done p e below s _ _ _ (T102.setTop (mkF m 31 #[.val (.ref a1), .val (.ref a2), .val (.int (0 : Int32)), .val (.int (3 : Int32)), .val (.int (1 : Int32))] [(.int v2)]))
  refine Done.step (fun t k => XS.aloadN X102.here hx rfl (hb hby d4_31) rfl rfl k) ?_
  show Done p e below s _ _ _ (T102.setTop (mkF m 32 #[.val (.ref a1), .val (.ref a2), .val (.int (0 : Int32)), .val (.int (3 : Int32)), .val (.int (1 : Int32))] [(.ref a2), (.int v2)]))
  obtain ⟨T103, X103, e103, st103⟩ := getF X102 hx hZ hown (host := "") (Or.inl (hw _ (List.mem_of_getElem? (i := 28) rfl))) Via.refl e102 F2 (g := (mkF m 32 #[.val (.ref a1), .val (.ref a2), .val (.int (0 : Int32)), .val (.int (3 : Int32)), .val (.int (1 : Int32))] [(.ref a2), (.int v2)])) rfl rfl (hb hby d4_32)
  refine Done.step st103 ?_
  show Done p e below s _ _ _ (T103.setTop (mkF m 35 #[.val (.ref a1), .val (.ref a2), .val (.int (0 : Int32)), .val (.int (3 : Int32)), .val (.int (1 : Int32))] [(.int cc), (.int v2)]))
  by_cases c1 : cc < v2
  · refine Done.step (fun t k => XS.icmpYes X103.here hx rfl (pc0 := 35) (pc' := 46) rfl (hb hby d4_35) rfl (tlt c1).2.2.1 (by decide) (by decide) k) ?_
    show Done p e below s _ _ _ (T103.setTop (mkF m 46 #[.val (.ref a1), .val (.ref a2), .val (.int (0 : Int32)), .val (.int (3 : Int32)), .val (.int (1 : Int32))] []))
    refine Done.step (fun t k => XS.iload X103.here hx rfl (hb hby d4_46) rfl k) ?_
    show Done p e below s _ _ _ (T103.setTop (mkF m 48 #[.val (.ref a1), .val (.ref a2), .val (.int (0 : Int32)), .val (.int (3 : Int32)), .val (.int (1 : Int32))] [(.int (1 : Int32))]))
    refine Done.step (fun t k => XS.istoreN X103.here hx rfl (hb hby d4_48) rfl (l' := #[.val (.ref a1), .val (.ref a2), .val (.int (0 : Int32)), .val (.int (1 : Int32)), .val (.int (1 : Int32))]) rfl k) ?_
    show Done p e below s _ _ _ (T103.setTop (mkF m 49 #[.val (.ref a1), .val (.ref a2), .val (.int (0 : Int32)), .val (.int (1 : Int32)), .val (.int (1 : Int32))] []))
    refine Done.step (fun t k => XS.goto X103.here hx rfl (pc0 := 49) (pc' := 10) rfl (hb hby d4_49) (by decide) (by decide) k) ?_
    show Done p e below s _ _ _ (T103.setTop (mkF m 10 #[.val (.ref a1), .val (.ref a2), .val (.int (0 : Int32)), .val (.int (1 : Int32)), .val (.int (1 : Int32))] []))
    refine Done.step (fun t k => XS.iloadN X103.here hx rfl (hb hby d4_10) rfl k) ?_
    show Done p e below s _ _ _ (T103.setTop (mkF m 11 #[.val (.ref a1), .val (.ref a2), .val (.int (0 : Int32)), .val (.int (1 : Int32)), .val (.int (1 : Int32))] [(.int (0 : Int32))]))
    refine Done.step (fun t k => XS.iloadN X103.here hx rfl (hb hby d4_11) rfl k) ?_
    show Done p e below s _ _ _ (T103.setTop (mkF m 12 #[.val (.ref a1), .val (.ref a2), .val (.int (0 : Int32)), .val (.int (1 : Int32)), .val (.int (1 : Int32))] [(.int (1 : Int32)), (.int (0 : Int32))]))
    refine Done.step (fun t k => XS.icmpNo X103.here hx rfl (hb hby d4_12) rfl (tlt (by decide)).2.1 k) ?_
    show Done p e below s _ _ _ (T103.setTop (mkF m 15 #[.val (.ref a1), .val (.ref a2), .val (.int (0 : Int32)), .val (.int (1 : Int32)), .val (.int (1 : Int32))] []))
    refine Done.step (fun t k => XS.iloadN X103.here hx rfl (hb hby d4_15) rfl k) ?_
    show Done p e below s _ _ _ (T103.setTop (mkF m 16 #[.val (.ref a1), .val (.ref a2), .val (.int (0 : Int32)), .val (.int (1 : Int32)), .val (.int (1 : Int32))] [(.int (0 : Int32))]))
    refine Done.step (fun t k => XS.iloadN X103.here hx rfl (hb hby d4_16) rfl k) ?_
    show Done p e below s _ _ _ (T103.setTop (mkF m 17 #[.val (.ref a1), .val (.ref a2), .val (.int (0 : Int32)), .val (.int (1 : Int32)), .val (.int (1 : Int32))] [(.int (1 : Int32)), (.int (0 : Int32))]))
    refine Done.step (fun t k => XS.iadd X103.here hx rfl (hb hby d4_17) rfl k) ?_
    show Done p e below s _ _ _ (T103.setTop (mkF m 18 #[.val (.ref a1), .val (.ref a2), .val (.int (0 : Int32)), .val (.int (1 : Int32)), .val (.int (1 : Int32))] [(.int ((0 : Int32) + (1 : Int32)))]))
    rw [show ((0 : Int32) + (1 : Int32)) = (1 : Int32) from by decide]
    show Done p e below s _ _ _ (T103.setTop (mkF m 18 #[.val (.ref a1), .val (.ref a2), .val (.int (0 : Int32)), .val (.int (1 : Int32)), .val (.int (1 : Int32))] [(.int (1 : Int32))]))
    refine Done.step (fun t k => XS.iconst X103.here hx rfl (hb hby d4_18) k) ?_
    show Done p e below s _ _ _ (T103.setTop (mkF m 19 #[.val (.ref a1), .val (.ref a2), .val (.int (0 : Int32)), .val (.int (1 : Int32)), .val (.int (1 : Int32))] [(.int (1 : Int32)), (.int (1 : Int32))]))
    refine Done.step (fun t k => XS.iushr X103.here hx rfl (hb hby d4_19) rfl k) ?_
    show Done p e below s _ _ _ (T103.setTop (mkF m 20 #[.val (.ref a1), .val (.ref a2), .val (.int (0 : Int32)), .val (.int (1 : Int32)), .val (.int (1 : Int32))] [(.int (((1 : Int32).toUInt32 >>> ((1 : Int32) &&& 31).toUInt32).toInt32))]))
    rw [show (((1 : Int32).toUInt32 >>> ((1 : Int32) &&& 31).toUInt32).toInt32) = (0 : Int32) from by decide]
    show Done p e below s _ _ _ (T103.setTop (mkF m 20 #[.val (.ref a1), .val (.ref a2), .val (.int (0 : Int32)), .val (.int (1 : Int32)), .val (.int (1 : Int32))] [(.int (0 : Int32))]))
    refine Done.step (fun t k => XS.istore X103.here hx rfl (hb hby d4_20) rfl (l' := #[.val (.ref a1), .val (.ref a2), .val (.int (0 : Int32)), .val (.int (1 : Int32)), .val (.int (0 : Int32))]) rfl k) ?_
    show Done p e below s _ _ _ (T103.setTop (mkF m 22 #[.val (.ref a1), .val (.ref a2), .val (.int (0 : Int32)), .val (.int (1 : Int32)), .val (.int (0 : Int32))] []))
    refine Done.step (fun t k => XS.aloadN X103.here hx rfl (hb hby d4_22) rfl rfl k) ?_
    show Done p e below s _ _ _ (T103.setTop (mkF m 23 #[.val (.ref a1), .val (.ref a2), .val (.int (0 : Int32)), .val (.int (1 : Int32)), .val (.int (0 : Int32))] [(.ref a1)]))
    obtain ⟨T104, X104, e104, st104⟩ := getF X103 hx hZ hown (host := "") (Or.inl (hw _ (List.mem_of_getElem? (i := 30) rfl))) Via.refl e103 F1 (g := (mkF m 23 #[.val (.ref a1), .val (.ref a2), .val (.int (0 : Int32)), .val (.int (1 : Int32)), .val (.int (0 : Int32))] [(.ref a1)])) rfl rfl (hb hby d4_23)
    refine Done.step st104 ?_
    show Done p e below s _ _ _ (T104.setTop (mkF m 26 #[.val (.ref a1), .val (.ref a2), .val (.int (0 : Int32)), .val (.int (1 : Int32)), .val (.int (0 : Int32))] [(.ref ar)]))
    refine Done.step (fun t k => XS.iconst X104.here hx rfl (hb hby d4_26) k) ?_
    show Done p e below s _ _ _ (T104.setTop (mkF m 27 #[.val (.ref a1), .val (.ref a2), .val (.int (0 : Int32)), .val (.int (1 : Int32)), .val (.int (0 : Int32))] [(.int (2 : Int32)), (.ref ar)]))
    refine Done.step (fun t k => XS.iload X104.here hx rfl (hb hby d4_27) rfl k) ?_
    show Done p e below s _ _ _ (T104.setTop (mkF m 29 #[.val (.ref a1), .val (.ref a2), .val (.int (0 : Int32)), .val (.int (1 : Int32)), .val (.int (0 : Int32))] [(.int (0 : Int32)), (.int (2 : Int32)), (.ref ar)]))
    refine Done.step (fun t k => XS.imul X104.here hx rfl (hb hby d4_29) rfl k) ?_
    show Done p e below s _ _ _ (T104.setTop (mkF m 30 #[.val (.ref a1), .val (.ref a2), .val (.int (0 : Int32)), .val (.int (1 : Int32)), .val (.int (0 : Int32))] [(.int ((2 : Int32) * (0 : Int32))), (.ref ar)]))
    rw [show ((2 : Int32) * (0 : Int32)) = (0 : Int32) from by decide]
    show Done p e below s _ _ _ (T104.setTop (mkF m 30 #[.val (.ref a1), .val (.ref a2), .val (.int (0 : Int32)), .val (.int (1 : Int32)), .val (.int (0 : Int32))] [(.int (0 : Int32)), (.ref ar)]))
    refine Done.step (ldI X104 hx hZ e104 A1 (j := (0 : Int32)) (x := (.int v0)) (by decide) rfl (g := (mkF m 30 #[.val (.ref a1), .val (.ref a2), .val (.int (0 : Int32)), .val (.int (1 : Int32)), .val (.int (0 : Int32))] [(.int (0 : Int32)), (.ref ar)])) rfl rfl (hb hby d4_30)) ?_
    show Done p e below s _ _ _ (T104.setTop (mkF m 31 #[.val (.ref a1), .val (.ref a2), .val (.int (0 : Int32)), .val (.int (1 : Int32)), .val (.int (0 : Int32))] [(.int v0)]))
    refine Done.step (fun t k => XS.aloadN X104.here hx rfl (hb hby d4_31) rfl rfl k) ?_
    show Done p e below s _ _ _ (T104.setTop (mkF m 32 #[.val (.ref a1), .val (.ref a2), .val (.int (0 : Int32)), .val (.int (1 : Int32)), .val (.int (0 : Int32))] [(.ref a2), (.int v0)]))
    obtain ⟨T105, X105, e105, st105⟩ := getF X104 hx hZ hown (host := "") (Or.inl (hw _ (List.mem_of_getElem? (i := 28) rfl))) Via.refl e104 F2 (g := (mkF m 32 #[.val (.ref a1), .val (.ref a2), .val (.int (0 : Int32)), .val (.int (1 : Int32)), .val (.int (0 : Int32))] [(.ref a2), (.int v0)])) rfl rfl (hb hby d4_32)
    refine Done.step st105 ?_
    show Done p e below s _ _ _ (T105.setTop (mkF m 35 #[.val (.ref a1), .val (.ref a2), .val (.int (0 : Int32)), .val (.int (1 : Int32)), .val (.int (0 : Int32))] [(.int cc), (.int v0)]))
    by_cases c2 : cc < v0
    · refine Done.step (fun t k => XS.icmpYes X105.here hx rfl (pc0 := 35) (pc' := 46) rfl (hb hby d4_35) rfl (tlt c2).2.2.1 (by decide) (by decide) k) ?_
      show Done p e below s _ _ _ (T105.setTop (mkF m 46 #[.val (.ref a1), .val (.ref a2), .val (.int (0 : Int32)), .val (.int (1 : Int32)), .val (.int (0 : Int32))] []))
      refine Done.step (fun t k => XS.iload X105.here hx rfl (hb hby d4_46) rfl k) ?_
      show Done p e below s _ _ _ (T105.setTop (mkF m 48 #[.val (.ref a1), .val (.ref a2), .val (.int (0 : Int32)), .val (.int (1 : Int32)), .val (.int (0 : Int32))] [(.int (0 : Int32))]))
      refine Done.step (fun t k => XS.istoreN X105.here hx rfl (hb hby d4_48) rfl (l' := #[.val (.ref a1), .val (.ref a2), .val (.int (0 : Int32)), .val (.int (0 : Int32)), .val (.int (0 : Int32))]) rfl k) ?_
      show Done p e below s _ _ _ (T105.setTop (mkF m 49 #[.val (.ref a1), .val (.ref a2), .val (.int (0 : Int32)), .val (.int (0 : Int32)), .val (.int (0 : Int32))] []))
      refine Done.step (fun t k => XS.goto X105.here hx rfl (pc0 := 49) (pc' := 10) rfl (hb hby d4_49) (by decide) (by decide) k) ?_
      show Done p e below s _ _ _ (T105.setTop (mkF m 10 #[.val (.ref a1), .val (.ref a2), .val (.int (0 : Int32)), .val (.int (0 : Int32)), .val (.int (0 : Int32))] []))
      refine Done.step (fun t k => XS.iloadN X105.here hx rfl (hb hby d4_10) rfl k) ?_
      show Done p e below s _ _ _ (T105.setTop (mkF m 11 #[.val (.ref a1), .val (.ref a2), .val (.int (0 : Int32)), .val (.int (0 : Int32)), .val (.int (0 : Int32))] [(.int (0 : Int32))]))
      refine Done.step (fun t k => XS.iloadN X105.here hx rfl (hb hby d4_11) rfl k) ?_
      show Done p e below s _ _ _ (T105.setTop (mkF m 12 #[.val (.ref a1), .val (.ref a2), .val (.int (0 : Int32)), .val (.int (0 : Int32)), .val (.int (0 : Int32))] [(.int (0 : Int32)), (.int (0 : Int32))]))
      refine Done.step (fun t k => XS.icmpYes X105.here hx rfl (pc0 := 12) (pc' := 52) rfl (hb hby d4_12) rfl (flt (by decide)).2.1 (by decide) (by decide) k) ?_
      show Done p e below s _ _ _ (T105.setTop (mkF m 52 #[.val (.ref a1), .val (.ref a2), .val (.int (0 : Int32)), .val (.int (0 : Int32)), .val (.int (0 : Int32))] []))
      refine Done.step (fun t k => XS.iloadN X105.here hx rfl (hb hby d4_52) rfl k) ?_
      show Done p e below s _ _ _ (T105.setTop (mkF m 53 #[.val (.ref a1), .val (.ref a2), .val (.int (0 : Int32)), .val (.int (0 : Int32)), .val (.int (0 : Int32))] [(.int (0 : Int32))]))
      refine Done.step (fun t k => XS.ifYes X105.here hx rfl (pc0 := 53) (pc' := 77) rfl (hb hby d4_53) rfl ((if0 _ _).trans (flt (by decide)).2.2.2) (by decide) (by decide) k) ?_
      show Done p e below s _ _ _ (T105.setTop (mkF m 77 #[.val (.ref a1), .val (.ref a2), .val (.int (0 : Int32)), .val (.int (0 : Int32)), .val (.int (0 : Int32))] []))
      refine Done.step (fun t k => XS.iconst X105.here hx rfl (hb hby d4_77) k) ?_
      show Done p e below s _ _ _ (T105.setTop (mkF m 78 #[.val (.ref a1), .val (.ref a2), .val (.int (0 : Int32)), .val (.int (0 : Int32)), .val (.int (0 : Int32))] [(.int (0 : Int32))]))
      exact Done.narr X105 hx hlk hret (by simp) (hb hby d4_78) (by decide) (by decide) ⟨by rw [← he, show CV3 v0 v1 v2 v3 v4 v5 cc = (0 : Int32) from by unfold CV3; rw [if_pos c1, if_pos c2]] <;> rfl, N0, e105⟩
    · refine Done.step (fun t k => XS.icmpNo X105.here hx rfl (hb hby d4_35) rfl (flt c2).2.2.1 k) ?_
      show Done p e below s _ _ _ (T105.setTop (mkF m 38 #[.val (.ref a1), .val (.ref a2), .val (.int (0 : Int32)), .val (.int (1 : Int32)), .val (.int (0 : Int32))] []))
      refine Done.step (fun t k => XS.iload X105.here hx rfl (hb hby d4_38) rfl k) ?_
      show Done p e below s _ _ _ (T105.setTop (mkF m 40 #[.val (.ref a1), .val (.ref a2), .val (.int (0 : Int32)), .val (.int (1 : Int32)), .val (.int (0 : Int32))] [(.int (0 : Int32))]))
      refine Done.step (fun t k => XS.iconst X105.here hx rfl (hb hby d4_40) k) ?_
      show Done p e below s _ _ _ (T105.setTop (mkF m 41 #[.val (.ref a1), .val (.ref a2), .val (.int (0 : Int32)), .val (.int (1 : Int32)), .val (.int (0 : Int32))] [(.int (1 : Int32)), (.int (0 : Int32))]))
      refine Done.step (fun t k => XS.iadd X105.here hx rfl (hb hby d4_41) rfl k) ?_
      show Done p e below s _ _ _ (T105.setTop (mkF m 42 #[.val (.ref a1), .val (.ref a2), .val (.int (0 : Int32)), .val (.int (1 : Int32)), .val (.int (0 : Int32))] [(.int ((0 : Int32) + (1 : Int32)))]))
      rw [show ((0 : Int32) + (1 : Int32)) = (1 : Int32) from by decide]
      show Done p e below s _ _ _ (T105.setTop (mkF m 42 #[.val (.ref a1), .val (.ref a2), .val (.int (0 : Int32)), .val (.int (1 : Int32)), .val (.int (0 : Int32))] [(.int (1 : Int32))]))
      refine Done.step (fun t k => XS.istoreN X105.here hx rfl (hb hby d4_42) rfl (l' := #[.val (.ref a1), .val (.ref a2), .val (.int (1 : Int32)), .val (.int (1 : Int32)), .val (.int (0 : Int32))]) rfl k) ?_
      show Done p e below s _ _ _ (T105.setTop (mkF m 43 #[.val (.ref a1), .val (.ref a2), .val (.int (1 : Int32)), .val (.int (1 : Int32)), .val (.int (0 : Int32))] []))
      refine Done.step (fun t k => XS.goto X105.here hx rfl (pc0 := 43) (pc' := 49) rfl (hb hby d4_43) (by decide) (by decide) k) ?_
      show Done p e below s _ _ _ (T105.setTop (mkF m 49 #[.val (.ref a1), .val (.ref a2), .val (.int (1 : Int32)), .val (.int (1 : Int32)), .val (.int (0 : Int32))] []))
      refine Done.step (fun t k => XS.goto X105.here hx rfl (pc0 := 49) (pc' := 10) rfl (hb hby d4_49) (by decide) (by decide) k) ?_
      show Done p e below s _ _ _ (T105.setTop (mkF m 10 #[.val (.ref a1), .val (.ref a2), .val (.int (1 : Int32)), .val (.int (1 : Int32)), .val (.int (0 : Int32))] []))
      refine Done.step (fun t k => XS.iloadN X105.here hx rfl (hb hby d4_10) rfl k) ?_
      show Done p e below s _ _ _ (T105.setTop (mkF m 11 #[.val (.ref a1), .val (.ref a2), .val (.int (1 : Int32)), .val (.int (1 : Int32)), .val (.int (0 : Int32))] [(.int (1 : Int32))]))
      refine Done.step (fun t k => XS.iloadN X105.here hx rfl (hb hby d4_11) rfl k) ?_
      show Done p e below s _ _ _ (T105.setTop (mkF m 12 #[.val (.ref a1), .val (.ref a2), .val (.int (1 : Int32)), .val (.int (1 : Int32)), .val (.int (0 : Int32))] [(.int (1 : Int32)), (.int (1 : Int32))]))
      refine Done.step (fun t k => XS.icmpYes X105.here hx rfl (pc0 := 12) (pc' := 52) rfl (hb hby d4_12) rfl (flt (by decide)).2.1 (by decide) (by decide) k) ?_
      show Done p e below s _ _ _ (T105.setTop (mkF m 52 #[.val (.ref a1), .val (.ref a2), .val (.int (1 : Int32)), .val (.int (1 : Int32)), .val (.int (0 : Int32))] []))
      refine Done.step (fun t k => XS.iloadN X105.here hx rfl (hb hby d4_52) rfl k) ?_
      show Done p e below s _ _ _ (T105.setTop (mkF m 53 #[.val (.ref a1), .val (.ref a2), .val (.int (1 : Int32)), .val (.int (1 : Int32)), .val (.int (0 : Int32))] [(.int (1 : Int32))]))
      refine Done.step (fun t k => XS.ifNo X105.here hx rfl (hb hby d4_53) rfl ((if0 _ _).trans (tlt (by decide)).2.2.2) k) ?_
      show Done p e below s _ _ _ (T105.setTop (mkF m 56 #[.val (.ref a1), .val (.ref a2), .val (.int (1 : Int32)), .val (.int (1 : Int32)), .val (.int (0 : Int32))] []))
      refine Done.step (fun t k => XS.aloadN X105.here hx rfl (hb hby d4_56) rfl rfl k) ?_
      show Done p e below s _ _ _ (T105.setTop (mkF m 57 #[.val (.ref a1), .val (.ref a2), .val (.int (1 : Int32)), .val (.int (1 : Int32)), .val (.int (0 : Int32))] [(.ref a2)]))
      obtain ⟨T106, X106, e106, st106⟩ := getF X105 hx hZ hown (host := "") (Or.inl (hw _ (List.mem_of_getElem? (i := 28) rfl))) Via.refl e105 F2 (g := (mkF m 57 #[.val (.ref a1), .val (.ref a2), .val (.int (1 : Int32)), .val (.int (1 : Int32)), .val (.int (0 : Int32))] [(.ref a2)])) rfl rfl (hb hby d4_57)
      refine Done.step st106 ?_
      show Done p e below s _ _ _ (T106.setTop (mkF m 60 #[.val (.ref a1), .val (.ref a2), .val (.int (1 : Int32)), .val (.int (1 : Int32)), .val (.int (0 : Int32))] [(.int cc)]))
      refine Done.step (fun t k => XS.aloadN X106.here hx rfl (hb hby d4_60) rfl rfl k) ?_
      show Done p e below s _ _ _ (T106.setTop (mkF m 61 #[.val (.ref a1), .val (.ref a2), .val (.int (1 : Int32)), .val (.int (1 : Int32)), .val (.int (0 : Int32))] [(.ref a1), (.int cc)]))
      obtain ⟨T107, X107, e107, st107⟩ := getF X106 hx hZ hown (host := "") (Or.inl (hw _ (List.mem_of_getElem? (i := 30) rfl))) Via.refl e106 F1 (g := (mkF m 61 #[.val (.ref a1), .val (.ref a2), .val (.int (1 : Int32)), .val (.int (1 : Int32)), .val (.int (0 : Int32))] [(.ref a1), (.int cc)])) rfl rfl (hb hby d4_61)
      refine Done.step st107 ?_
      show Done p e below s _ _ _ (T107.setTop (mkF m 64 #[.val (.ref a1), .val (.ref a2), .val (.int (1 : Int32)), .val (.int (1 : Int32)), .val (.int (0 : Int32))] [(.ref ar), (.int cc)]))
      refine Done.step (fun t k => XS.iconst X107.here hx rfl (hb hby d4_64) k) ?_
      show Done p e below s _ _ _ (T107.setTop (mkF m 65 #[.val (.ref a1), .val (.ref a2), .val (.int (1 : Int32)), .val (.int (1 : Int32)), .val (.int (0 : Int32))] [(.int (2 : Int32)), (.ref ar), (.int cc)]))
      refine Done.step (fun t k => XS.iloadN X107.here hx rfl (hb hby d4_65) rfl k) ?_
      show Done p e below s _ _ _ (T107.setTop (mkF m 66 #[.val (.ref a1), .val (.ref a2), .val (.int (1 : Int32)), .val (.int (1 : Int32)), .val (.int (0 : Int32))] [(.int (1 : Int32)), (.int (2 : Int32)), (.ref ar), (.int cc)]))
      refine Done.step (fun t k => XS.imul X107.here hx rfl (hb hby d4_66) rfl k) ?_
      show Done p e below s _ _ _ (T107.setTop (mkF m 67 #[.val (.ref a1), .val (.ref a2), .val (.int (1 : Int32)), .val (.int (1 : Int32)), .val (.int (0 : Int32))] [(.int ((2 : Int32) * (1 : Int32))), (.ref ar), (.int cc)]))
      rw [show ((2 : Int32) * (1 : Int32)) = (2 : Int32) from by decide]
      show Done p e below s _ _ _ (T107.setTop (mkF m 67 #[.val (.ref a1), .val (.ref a2), .val (.int (1 : Int32)), .val (.int (1 : Int32)), .val (.int (0 : Int32))] [(.int (2 : Int32)), (.ref ar), (.int cc)]))
      refine Done.step (fun t k => XS.iconst X107.here hx rfl (hb hby d4_67) k) ?_
      show Done p e below s _ _ _ (T107.setTop (mkF m 68 #[.val (.ref a1), .val (.ref a2), .val (.int (1 : Int32)), .val (.int (1 : Int32)), .val (.int (0 : Int32))] [(.int (1 : Int32)), (.int (2 : Int32)), (.ref ar), (.int cc)]))
      refine Done.step (fun t k => XS.isub X107.here hx rfl (hb hby d4_68) rfl k) ?_
      show Done p e below s _ _ _ (T107.setTop (mkF m 69 #[.val (.ref a1), .val (.ref a2), .val (.int (1 : Int32)), .val (.int (1 : Int32)), .val (.int (0 : Int32))] [(.int ((2 : Int32) - (1 : Int32))), (.ref ar), (.int cc)]))
      rw [show ((2 : Int32) - (1 : Int32)) = (1 : Int32) from by decide]
      show Done p e below s _ _ _ (T107.setTop (mkF m 69 #[.val (.ref a1), .val (.ref a2), .val (.int (1 : Int32)), .val (.int (1 : Int32)), .val (.int (0 : Int32))] [(.int (1 : Int32)), (.ref ar), (.int cc)]))
      refine Done.step (ldI X107 hx hZ e107 A1 (j := (1 : Int32)) (x := (.int v1)) (by decide) rfl (g := (mkF m 69 #[.val (.ref a1), .val (.ref a2), .val (.int (1 : Int32)), .val (.int (1 : Int32)), .val (.int (0 : Int32))] [(.int (1 : Int32)), (.ref ar), (.int cc)])) rfl rfl (hb hby d4_69)) ?_
      show Done p e below s _ _ _ (T107.setTop (mkF m 70 #[.val (.ref a1), .val (.ref a2), .val (.int (1 : Int32)), .val (.int (1 : Int32)), .val (.int (0 : Int32))] [(.int v1), (.int cc)]))
      by_cases c3 : cc < v1
      · refine Done.step (fun t k => XS.icmpNo X107.here hx rfl (hb hby d4_70) rfl (tlt c3).2.1 k) ?_
        show Done p e below s _ _ _ (T107.setTop (mkF m 73 #[.val (.ref a1), .val (.ref a2), .val (.int (1 : Int32)), .val (.int (1 : Int32)), .val (.int (0 : Int32))] []))
        refine Done.step (fun t k => XS.iconst X107.here hx rfl (hb hby d4_73) k) ?_
        show Done p e below s _ _ _ (T107.setTop (mkF m 74 #[.val (.ref a1), .val (.ref a2), .val (.int (1 : Int32)), .val (.int (1 : Int32)), .val (.int (0 : Int32))] [(.int (1 : Int32))]))
        refine Done.step (fun t k => XS.goto X107.here hx rfl (pc0 := 74) (pc' := 78) rfl (hb hby d4_74) (by decide) (by decide) k) ?_
        show Done p e below s _ _ _ (T107.setTop (mkF m 78 #[.val (.ref a1), .val (.ref a2), .val (.int (1 : Int32)), .val (.int (1 : Int32)), .val (.int (0 : Int32))] [(.int (1 : Int32))]))
        exact Done.narr X107 hx hlk hret (by simp) (hb hby d4_78) (by decide) (by decide) ⟨by rw [← he, show CV3 v0 v1 v2 v3 v4 v5 cc = (1 : Int32) from by unfold CV3; rw [if_pos c1, if_neg c2, if_pos c3]] <;> rfl, N0, e107⟩
      · refine Done.step (fun t k => XS.icmpYes X107.here hx rfl (pc0 := 70) (pc' := 77) rfl (hb hby d4_70) rfl (flt c3).2.1 (by decide) (by decide) k) ?_
        show Done p e below s _ _ _ (T107.setTop (mkF m 77 #[.val (.ref a1), .val (.ref a2), .val (.int (1 : Int32)), .val (.int (1 : Int32)), .val (.int (0 : Int32))] []))
        refine Done.step (fun t k => XS.iconst X107.here hx rfl (hb hby d4_77) k) ?_
        show Done p e below s _ _ _ (T107.setTop (mkF m 78 #[.val (.ref a1), .val (.ref a2), .val (.int (1 : Int32)), .val (.int (1 : Int32)), .val (.int (0 : Int32))] [(.int (0 : Int32))]))
        exact Done.narr X107 hx hlk hret (by simp) (hb hby d4_78) (by decide) (by decide) ⟨by rw [← he, show CV3 v0 v1 v2 v3 v4 v5 cc = (0 : Int32) from by unfold CV3; rw [if_pos c1, if_neg c2, if_neg c3]] <;> rfl, N0, e107⟩
  · refine Done.step (fun t k => XS.icmpNo X103.here hx rfl (hb hby d4_35) rfl (flt c1).2.2.1 k) ?_
    show Done p e below s _ _ _ (T103.setTop (mkF m 38 #[.val (.ref a1), .val (.ref a2), .val (.int (0 : Int32)), .val (.int (3 : Int32)), .val (.int (1 : Int32))] []))
    refine Done.step (fun t k => XS.iload X103.here hx rfl (hb hby d4_38) rfl k) ?_
    show Done p e below s _ _ _ (T103.setTop (mkF m 40 #[.val (.ref a1), .val (.ref a2), .val (.int (0 : Int32)), .val (.int (3 : Int32)), .val (.int (1 : Int32))] [(.int (1 : Int32))]))
    refine Done.step (fun t k => XS.iconst X103.here hx rfl (hb hby d4_40) k) ?_
    show Done p e below s _ _ _ (T103.setTop (mkF m 41 #[.val (.ref a1), .val (.ref a2), .val (.int (0 : Int32)), .val (.int (3 : Int32)), .val (.int (1 : Int32))] [(.int (1 : Int32)), (.int (1 : Int32))]))
    refine Done.step (fun t k => XS.iadd X103.here hx rfl (hb hby d4_41) rfl k) ?_
    show Done p e below s _ _ _ (T103.setTop (mkF m 42 #[.val (.ref a1), .val (.ref a2), .val (.int (0 : Int32)), .val (.int (3 : Int32)), .val (.int (1 : Int32))] [(.int ((1 : Int32) + (1 : Int32)))]))
    rw [show ((1 : Int32) + (1 : Int32)) = (2 : Int32) from by decide]
    show Done p e below s _ _ _ (T103.setTop (mkF m 42 #[.val (.ref a1), .val (.ref a2), .val (.int (0 : Int32)), .val (.int (3 : Int32)), .val (.int (1 : Int32))] [(.int (2 : Int32))]))
    refine Done.step (fun t k => XS.istoreN X103.here hx rfl (hb hby d4_42) rfl (l' := #[.val (.ref a1), .val (.ref a2), .val (.int (2 : Int32)), .val (.int (3 : Int32)), .val (.int (1 : Int32))]) rfl k) ?_
    show Done p e below s _ _ _ (T103.setTop (mkF m 43 #[.val (.ref a1), .val (.ref a2), .val (.int (2 : Int32)), .val (.int (3 : Int32)), .val (.int (1 : Int32))] []))
    refine Done.step (fun t k => XS.goto X103.here hx rfl (pc0 := 43) (pc' := 49) rfl (hb hby d4_43) (by decide) (by decide) k) ?_
    show Done p e below s _ _ _ (T103.setTop (mkF m 49 #[.val (.ref a1), .val (.ref a2), .val (.int (2 : Int32)), .val (.int (3 : Int32)), .val (.int (1 : Int32))] []))
    refine Done.step (fun t k => XS.goto X103.here hx rfl (pc0 := 49) (pc' := 10) rfl (hb hby d4_49) (by decide) (by decide) k) ?_
    show Done p e below s _ _ _ (T103.setTop (mkF m 10 #[.val (.ref a1), .val (.ref a2), .val (.int (2 : Int32)), .val (.int (3 : Int32)), .val (.int (1 : Int32))] []))
    refine Done.step (fun t k => XS.iloadN X103.here hx rfl (hb hby d4_10) rfl k) ?_
    show Done p e below s _ _ _ (T103.setTop (mkF m 11 #[.val (.ref a1), .val (.ref a2), .val (.int (2 : Int32)), .val (.int (3 : Int32)), .val (.int (1 : Int32))] [(.int (2 : Int32))]))
    refine Done.step (fun t k => XS.iloadN X103.here hx rfl (hb hby d4_11) rfl k) ?_
    show Done p e below s _ _ _ (T103.setTop (mkF m 12 #[.val (.ref a1), .val (.ref a2), .val (.int (2 : Int32)), .val (.int (3 : Int32)), .val (.int (1 : Int32))] [(.int (3 : Int32)), (.int (2 : Int32))]))
    refine Done.step (fun t k => XS.icmpNo X103.here hx rfl (hb hby d4_12) rfl (tlt (by decide)).2.1 k) ?_
    show Done p e below s _ _ _ (T103.setTop (mkF m 15 #[.val (.ref a1), .val (.ref a2), .val (.int (2 : Int32)), .val (.int (3 : Int32)), .val (.int (1 : Int32))] []))
    refine Done.step (fun t k => XS.iloadN X103.here hx rfl (hb hby d4_15) rfl k) ?_
    show Done p e below s _ _ _ (T103.setTop (mkF m 16 #[.val (.ref a1), .val (.ref a2), .val (.int (2 : Int32)), .val (.int (3 : Int32)), .val (.int (1 : Int32))] [(.int (2 : Int32))]))
    refine Done.step (fun t k => XS.iloadN X103.here hx rfl (hb hby d4_16) rfl k) ?_
    show Done p e below s _ _ _ (T103.setTop (mkF m 17 #[.val (.ref a1), .val (.ref a2), .val (.int (2 : Int32)), .val (.int (3 : Int32)), .val (.int (1 : Int32))] [(.int (3 : Int32)), (.int (2 : Int32))]))
    refine Done.step (fun t k => XS.iadd X103.here hx rfl (hb hby d4_17) rfl k) ?_
    show Done p e below s _ _ _ (T103.setTop (mkF m 18 #[.val (.ref a1), .val (.ref a2), .val (.int (2 : Int32)), .val (.int (3 : Int32)), .val (.int (1 : Int32))] [(.int ((2 : Int32) + (3 : Int32)))]))
    rw [show ((2 : Int32) + (3 : Int32)) = (5 : Int32) from by decide]
    show Done p e below s _ _ _ (T103.setTop (mkF m 18 #[.val (.ref a1), .val (.ref a2), .val (.int (2 : Int32)), .val (.int (3 : Int32)), .val (.int (1 : Int32))] [(.int (5 : Int32))]))
    refine Done.step (fun t k => XS.iconst X103.here hx rfl (hb hby d4_18) k) ?_
    show Done p e below s _ _ _ (T103.setTop (mkF m 19 #[.val (.ref a1), .val (.ref a2), .val (.int (2 : Int32)), .val (.int (3 : Int32)), .val (.int (1 : Int32))] [(.int (1 : Int32)), (.int (5 : Int32))]))
    refine Done.step (fun t k => XS.iushr X103.here hx rfl (hb hby d4_19) rfl k) ?_
    show Done p e below s _ _ _ (T103.setTop (mkF m 20 #[.val (.ref a1), .val (.ref a2), .val (.int (2 : Int32)), .val (.int (3 : Int32)), .val (.int (1 : Int32))] [(.int (((5 : Int32).toUInt32 >>> ((1 : Int32) &&& 31).toUInt32).toInt32))]))
    rw [show (((5 : Int32).toUInt32 >>> ((1 : Int32) &&& 31).toUInt32).toInt32) = (2 : Int32) from by decide]
    show Done p e below s _ _ _ (T103.setTop (mkF m 20 #[.val (.ref a1), .val (.ref a2), .val (.int (2 : Int32)), .val (.int (3 : Int32)), .val (.int (1 : Int32))] [(.int (2 : Int32))]))
    refine Done.step (fun t k => XS.istore X103.here hx rfl (hb hby d4_20) rfl (l' := #[.val (.ref a1), .val (.ref a2), .val (.int (2 : Int32)), .val (.int (3 : Int32)), .val (.int (2 : Int32))]) rfl k) ?_
    show Done p e below s _ _ _ (T103.setTop (mkF m 22 #[.val (.ref a1), .val (.ref a2), .val (.int (2 : Int32)), .val (.int (3 : Int32)), .val (.int (2 : Int32))] []))
    refine Done.step (fun t k => XS.aloadN X103.here hx rfl (hb hby d4_22) rfl rfl k) ?_
    show Done p e below s _ _ _ (T103.setTop (mkF m 23 #[.val (.ref a1), .val (.ref a2), .val (.int (2 : Int32)), .val (.int (3 : Int32)), .val (.int (2 : Int32))] [(.ref a1)]))
    obtain ⟨T108, X108, e108, st108⟩ := getF X103 hx hZ hown (host := "") (Or.inl (hw _ (List.mem_of_getElem? (i := 30) rfl))) Via.refl e103 F1 (g := (mkF m 23 #[.val (.ref a1), .val (.ref a2), .val (.int (2 : Int32)), .val (.int (3 : Int32)), .val (.int (2 : Int32))] [(.ref a1)])) rfl rfl (hb hby d4_23)
    refine Done.step st108 ?_
    show Done p e below s _ _ _ (T108.setTop (mkF m 26 #[.val (.ref a1), .val (.ref a2), .val (.int (2 : Int32)), .val (.int (3 : Int32)), .val (.int (2 : Int32))] [(.ref ar)]))
    refine Done.step (fun t k => XS.iconst X108.here hx rfl (hb hby d4_26) k) ?_
    show Done p e below s _ _ _ (T108.setTop (mkF m 27 #[.val (.ref a1), .val (.ref a2), .val (.int (2 : Int32)), .val (.int (3 : Int32)), .val (.int (2 : Int32))] [(.int (2 : Int32)), (.ref ar)]))
    refine Done.step (fun t k => XS.iload X108.here hx rfl (hb hby d4_27) rfl k) ?_
    show Done p e below s _ _ _ (T108.setTop (mkF m 29 #[.val (.ref a1), .val (.ref a2), .val (.int (2 : Int32)), .val (.int (3 : Int32)), .val (.int (2 : Int32))] [(.int (2 : Int32)), (.int (2 : Int32)), (.ref ar)]))
    refine Done.step (fun t k => XS.imul X108.here hx rfl (hb hby d4_29) rfl k) ?_
    show Done p e below s _ _ _ (T108.setTop (mkF m 30 #[.val (.ref a1), .val (.ref a2), .val (.int (2 : Int32)), .val (.int (3 : Int32)), .val (.int (2 : Int32))] [(.int ((2 : Int32) * (2 : Int32))), (.ref ar)]))
    rw [show ((2 : Int32) * (2 : Int32)) = (4 : Int32) from by decide]
    show Done p e below s _ _ _ (T108.setTop (mkF m 30 #[.val (.ref a1), .val (.ref a2), .val (.int (2 : Int32)), .val (.int (3 : Int32)), .val (.int (2 : Int32))] [(.int (4 : Int32)), (.ref ar)]))
    refine Done.step (ldI X108 hx hZ e108 A1 (j := (4 : Int32)) (x := (.int v4)) (by decide) rfl (g := (mkF m 30 #[.val (.ref a1), .val (.ref a2), .val (.int (2 : Int32)), .val (.int (3 : Int32)), .val (.int (2 : Int32))] [(.int (4 : Int32)), (.ref ar)])) rfl rfl (hb hby d4_30)) ?_
    show Done p e below s _ _ _ (T108.setTop (mkF m 31 #[.val (.ref a1), .val (.ref a2), .val (.int (2 : Int32)), .val (.int (3 : Int32)), .val (.int (2 : Int32))] [(.int v4)]))
    refine Done.step (fun t k => XS.aloadN X108.here hx rfl (hb hby d4_31) rfl rfl k) ?_
    show Done p e below s _ _ _ (T108.setTop (mkF m 32 #[.val (.ref a1), .val (.ref a2), .val (.int (2 : Int32)), .val (.int (3 : Int32)), .val (.int (2 : Int32))] [(.ref a2), (.int v4)]))
    obtain ⟨T109, X109, e109, st109⟩ := getF X108 hx hZ hown (host := "") (Or.inl (hw _ (List.mem_of_getElem? (i := 28) rfl))) Via.refl e108 F2 (g := (mkF m 32 #[.val (.ref a1), .val (.ref a2), .val (.int (2 : Int32)), .val (.int (3 : Int32)), .val (.int (2 : Int32))] [(.ref a2), (.int v4)])) rfl rfl (hb hby d4_32)
    refine Done.step st109 ?_
    show Done p e below s _ _ _ (T109.setTop (mkF m 35 #[.val (.ref a1), .val (.ref a2), .val (.int (2 : Int32)), .val (.int (3 : Int32)), .val (.int (2 : Int32))] [(.int cc), (.int v4)]))
    by_cases c4 : cc < v4
    · refine Done.step (fun t k => XS.icmpYes X109.here hx rfl (pc0 := 35) (pc' := 46) rfl (hb hby d4_35) rfl (tlt c4).2.2.1 (by decide) (by decide) k) ?_
      show Done p e below s _ _ _ (T109.setTop (mkF m 46 #[.val (.ref a1), .val (.ref a2), .val (.int (2 : Int32)), .val (.int (3 : Int32)), .val (.int (2 : Int32))] []))
      refine Done.step (fun t k => XS.iload X109.here hx rfl (hb hby d4_46) rfl k) ?_
      show Done p e below s _ _ _ (T109.setTop (mkF m 48 #[.val (.ref a1), .val (.ref a2), .val (.int (2 : Int32)), .val (.int (3 : Int32)), .val (.int (2 : Int32))] [(.int (2 : Int32))]))
      refine Done.step (fun t k => XS.istoreN X109.here hx rfl (hb hby d4_48) rfl (l' := #[.val (.ref a1), .val (.ref a2), .val (.int (2 : Int32)), .val (.int (2 : Int32)), .val (.int (2 : Int32))]) rfl k) ?_
      show Done p e below s _ _ _ (T109.setTop (mkF m 49 #[.val (.ref a1), .val (.ref a2), .val (.int (2 : Int32)), .val (.int (2 : Int32)), .val (.int (2 : Int32))] []))
      refine Done.step (fun t k => XS.goto X109.here hx rfl (pc0 := 49) (pc' := 10) rfl (hb hby d4_49) (by decide) (by decide) k) ?_
      show Done p e below s _ _ _ (T109.setTop (mkF m 10 #[.val (.ref a1), .val (.ref a2), .val (.int (2 : Int32)), .val (.int (2 : Int32)), .val (.int (2 : Int32))] []))
      refine Done.step (fun t k => XS.iloadN X109.here hx rfl (hb hby d4_10) rfl k) ?_
      show Done p e below s _ _ _ (T109.setTop (mkF m 11 #[.val (.ref a1), .val (.ref a2), .val (.int (2 : Int32)), .val (.int (2 : Int32)), .val (.int (2 : Int32))] [(.int (2 : Int32))]))
      refine Done.step (fun t k => XS.iloadN X109.here hx rfl (hb hby d4_11) rfl k) ?_
      show Done p e below s _ _ _ (T109.setTop (mkF m 12 #[.val (.ref a1), .val (.ref a2), .val (.int (2 : Int32)), .val (.int (2 : Int32)), .val (.int (2 : Int32))] [(.int (2 : Int32)), (.int (2 : Int32))]))
      refine Done.step (fun t k => XS.icmpYes X109.here hx rfl (pc0 := 12) (pc' := 52) rfl (hb hby d4_12) rfl (flt (by decide)).2.1 (by decide) (by decide) k) ?_
      show Done p e below s _ _ _ (T109.setTop (mkF m 52 #[.val (.ref a1), .val (.ref a2), .val (.int (2 : Int32)), .val (.int (2 : Int32)), .val (.int (2 : Int32))] []))
      refine Done.step (fun t k => XS.iloadN X109.here hx rfl (hb hby d4_52) rfl k) ?_
      show Done p e below s _ _ _ (T109.setTop (mkF m 53 #[.val (.ref a1), .val (.ref a2), .val (.int (2 : Int32)), .val (.int (2 : Int32)), .val (.int (2 : Int32))] [(.int (2 : Int32))]))
      refine Done.step (fun t k => XS.ifNo X109.here hx rfl (hb hby d4_53) rfl ((if0 _ _).trans (tlt (by decide)).2.2.2) k) ?_
      show Done p e below s _ _ _ (T109.setTop (mkF m 56 #[.val (.ref a1), .val (.ref a2), .val (.int (2 : Int32)), .val (.int (2 : Int32)), .val (.int (2 : Int32))] []))
      refine Done.step (fun t k => XS.aloadN X109.here hx rfl (hb hby d4_56) rfl rfl k) ?_
      show Done p e below s _ _ _ (T109.setTop (mkF m 57 #[.val (.ref a1), .val (.ref a2), .val (.int (2 : Int32)), .val (.int (2 : Int32)), .val (.int (2 : Int32))] [(.ref a2)]))
      obtain ⟨T110, X110, e110, st110⟩ := getF X109 hx hZ hown (host := "") (Or.inl (hw _ (List.mem_of_getElem? (i := 28) rfl))) Via.refl e109 F2 (g := (mkF m 57 #[.val (.ref a1), .val (.ref a2), .val (.int (2 : Int32)), .val (.int (2 : Int32)), .val (.int (2 : Int32))] [(.ref a2)])) rfl rfl (hb hby d4_57)
      refine Done.step st110 ?_
      show Done p e below s _ _ _ (T110.setTop (mkF m 60 #[.val (.ref a1), .val (.ref a2), .val (.int (2 : Int32)), .val (.int (2 : Int32)), .val (.int (2 : Int32))] [(.int cc)]))
      refine Done.step (fun t k => XS.aloadN X110.here hx rfl (hb hby d4_60) rfl rfl k) ?_
      show Done p e below s _ _ _ (T110.setTop (mkF m 61 #[.val (.ref a1), .val (.ref a2), .val (.int (2 : Int32)), .val (.int (2 : Int32)), .val (.int (2 : Int32))] [(.ref a1), (.int cc)]))
      obtain ⟨T111, X111, e111, st111⟩ := getF X110 hx hZ hown (host := "") (Or.inl (hw _ (List.mem_of_getElem? (i := 30) rfl))) Via.refl e110 F1 (g := (mkF m 61 #[.val (.ref a1), .val (.ref a2), .val (.int (2 : Int32)), .val (.int (2 : Int32)), .val (.int (2 : Int32))] [(.ref a1), (.int cc)])) rfl rfl (hb hby d4_61)
      refine Done.step st111 ?_
      show Done p e below s _ _ _ (T111.setTop (mkF m 64 #[.val (.ref a1), .val (.ref a2), .val (.int (2 : Int32)), .val (.int (2 : Int32)), .val (.int (2 : Int32))] [(.ref ar), (.int cc)]))
      refine Done.step (fun t k => XS.iconst X111.here hx rfl (hb hby d4_64) k) ?_
      show Done p e below s _ _ _ (T111.setTop (mkF m 65 #[.val (.ref a1), .val (.ref a2), .val (.int (2 : Int32)), .val (.int (2 : Int32)), .val (.int (2 : Int32))] [(.int (2 : Int32)), (.ref ar), (.int cc)]))
      refine Done.step (fun t k => XS.iloadN X111.here hx rfl (hb hby d4_65) rfl k) ?_
      show Done p e below s _ _ _ (T111.setTop (mkF m 66 #[.val (.ref a1), .val (.ref a2), .val (.int (2 : Int32)), .val (.int (2 : Int32)), .val (.int (2 : Int32))] [(.int (2 : Int32)), (.int (2 : Int32)), (.ref ar), (.int cc)]))
      refine Done.step (fun t k => XS.imul X111.here hx rfl (hb hby d4_66) rfl k) ?_
      show Done p e below s _ _ _ (T111.setTop (mkF m 67 #[.val (.ref a1), .val (.ref a2), .val (.int (2 : Int32)), .val (.int (2 : Int32)), .val (.int (2 : Int32))] [(.int ((2 : Int32) * (2 : Int32))), (.ref ar), (.int cc)]))
      rw [show ((2 : Int32) * (2 : Int32)) = (4 : Int32) from by decide]
      show Done p e below s _ _ _ (T111.setTop (mkF m 67 #[.val (.ref a1), .val (.ref a2), .val (.int (2 : Int32)), .val (.int (2 : Int32)), .val (.int (2 : Int32))] [(.int (4 : Int32)), (.ref ar), (.int cc)]))
      refine Done.step (fun t k => XS.iconst X111.here hx rfl (hb hby d4_67) k) ?_
      show Done p e below s _ _ _ (T111.setTop (mkF m 68 #[.val (.ref a1), .val (.ref a2), .val (.int (2 : Int32)), .val (.int (2 : Int32)), .val (.int (2 : Int32))] [(.int (1 : Int32)), (.int (4 : Int32)), (.ref ar), (.int cc)]))
      refine Done.step (fun t k => XS.isub X111.here hx rfl (hb hby d4_68) rfl k) ?_
      show Done p e below s _ _ _ (T111.setTop (mkF m 69 #[.val (.ref a1), .val (.ref a2), .val (.int (2 : Int32)), .val (.int (2 : Int32)), .val (.int (2 : Int32))] [(.int ((4 : Int32) - (1 : Int32))), (.ref ar), (.int cc)]))
      rw [show ((4 : Int32) - (1 : Int32)) = (3 : Int32) from by decide]
      show Done p e below s _ _ _ (T111.setTop (mkF m 69 #[.val (.ref a1), .val (.ref a2), .val (.int (2 : Int32)), .val (.int (2 : Int32)), .val (.int (2 : Int32))] [(.int (3 : Int32)), (.ref ar), (.int cc)]))
      refine Done.step (ldI X111 hx hZ e111 A1 (j := (3 : Int32)) (x := (.int v3)) (by decide) rfl (g := (mkF m 69 #[.val (.ref a1), .val (.ref a2), .val (.int (2 : Int32)), .val (.int (2 : Int32)), .val (.int (2 : Int32))] [(.int (3 : Int32)), (.ref ar), (.int cc)])) rfl rfl (hb hby d4_69)) ?_
      show Done p e below s _ _ _ (T111.setTop (mkF m 70 #[.val (.ref a1), .val (.ref a2), .val (.int (2 : Int32)), .val (.int (2 : Int32)), .val (.int (2 : Int32))] [(.int v3), (.int cc)]))
      by_cases c5 : cc < v3
      · refine Done.step (fun t k => XS.icmpNo X111.here hx rfl (hb hby d4_70) rfl (tlt c5).2.1 k) ?_
        show Done p e below s _ _ _ (T111.setTop (mkF m 73 #[.val (.ref a1), .val (.ref a2), .val (.int (2 : Int32)), .val (.int (2 : Int32)), .val (.int (2 : Int32))] []))
        refine Done.step (fun t k => XS.iconst X111.here hx rfl (hb hby d4_73) k) ?_
        show Done p e below s _ _ _ (T111.setTop (mkF m 74 #[.val (.ref a1), .val (.ref a2), .val (.int (2 : Int32)), .val (.int (2 : Int32)), .val (.int (2 : Int32))] [(.int (1 : Int32))]))
        refine Done.step (fun t k => XS.goto X111.here hx rfl (pc0 := 74) (pc' := 78) rfl (hb hby d4_74) (by decide) (by decide) k) ?_
        show Done p e below s _ _ _ (T111.setTop (mkF m 78 #[.val (.ref a1), .val (.ref a2), .val (.int (2 : Int32)), .val (.int (2 : Int32)), .val (.int (2 : Int32))] [(.int (1 : Int32))]))
        exact Done.narr X111 hx hlk hret (by simp) (hb hby d4_78) (by decide) (by decide) ⟨by rw [← he, show CV3 v0 v1 v2 v3 v4 v5 cc = (1 : Int32) from by unfold CV3; rw [if_neg c1, if_pos c4, if_pos c5]] <;> rfl, N0, e111⟩
      · refine Done.step (fun t k => XS.icmpYes X111.here hx rfl (pc0 := 70) (pc' := 77) rfl (hb hby d4_70) rfl (flt c5).2.1 (by decide) (by decide) k) ?_
        show Done p e below s _ _ _ (T111.setTop (mkF m 77 #[.val (.ref a1), .val (.ref a2), .val (.int (2 : Int32)), .val (.int (2 : Int32)), .val (.int (2 : Int32))] []))
        refine Done.step (fun t k => XS.iconst X111.here hx rfl (hb hby d4_77) k) ?_
        show Done p e below s _ _ _ (T111.setTop (mkF m 78 #[.val (.ref a1), .val (.ref a2), .val (.int (2 : Int32)), .val (.int (2 : Int32)), .val (.int (2 : Int32))] [(.int (0 : Int32))]))
        exact Done.narr X111 hx hlk hret (by simp) (hb hby d4_78) (by decide) (by decide) ⟨by rw [← he, show CV3 v0 v1 v2 v3 v4 v5 cc = (0 : Int32) from by unfold CV3; rw [if_neg c1, if_pos c4, if_neg c5]] <;> rfl, N0, e111⟩
    · refine Done.step (fun t k => XS.icmpNo X109.here hx rfl (hb hby d4_35) rfl (flt c4).2.2.1 k) ?_
      show Done p e below s _ _ _ (T109.setTop (mkF m 38 #[.val (.ref a1), .val (.ref a2), .val (.int (2 : Int32)), .val (.int (3 : Int32)), .val (.int (2 : Int32))] []))
      refine Done.step (fun t k => XS.iload X109.here hx rfl (hb hby d4_38) rfl k) ?_
      show Done p e below s _ _ _ (T109.setTop (mkF m 40 #[.val (.ref a1), .val (.ref a2), .val (.int (2 : Int32)), .val (.int (3 : Int32)), .val (.int (2 : Int32))] [(.int (2 : Int32))]))
      refine Done.step (fun t k => XS.iconst X109.here hx rfl (hb hby d4_40) k) ?_
      show Done p e below s _ _ _ (T109.setTop (mkF m 41 #[.val (.ref a1), .val (.ref a2), .val (.int (2 : Int32)), .val (.int (3 : Int32)), .val (.int (2 : Int32))] [(.int (1 : Int32)), (.int (2 : Int32))]))
      refine Done.step (fun t k => XS.iadd X109.here hx rfl (hb hby d4_41) rfl k) ?_
      show Done p e below s _ _ _ (T109.setTop (mkF m 42 #[.val (.ref a1), .val (.ref a2), .val (.int (2 : Int32)), .val (.int (3 : Int32)), .val (.int (2 : Int32))] [(.int ((2 : Int32) + (1 : Int32)))]))
      rw [show ((2 : Int32) + (1 : Int32)) = (3 : Int32) from by decide]
      show Done p e below s _ _ _ (T109.setTop (mkF m 42 #[.val (.ref a1), .val (.ref a2), .val (.int (2 : Int32)), .val (.int (3 : Int32)), .val (.int (2 : Int32))] [(.int (3 : Int32))]))
      refine Done.step (fun t k => XS.istoreN X109.here hx rfl (hb hby d4_42) rfl (l' := #[.val (.ref a1), .val (.ref a2), .val (.int (3 : Int32)), .val (.int (3 : Int32)), .val (.int (2 : Int32))]) rfl k) ?_
      show Done p e below s _ _ _ (T109.setTop (mkF m 43 #[.val (.ref a1), .val (.ref a2), .val (.int (3 : Int32)), .val (.int (3 : Int32)), .val (.int (2 : Int32))] []))
      refine Done.step (fun t k => XS.goto X109.here hx rfl (pc0 := 43) (pc' := 49) rfl (hb hby d4_43) (by decide) (by decide) k) ?_
      show Done p e below s _ _ _ (T109.setTop (mkF m 49 #[.val (.ref a1), .val (.ref a2), .val (.int (3 : Int32)), .val (.int (3 : Int32)), .val (.int (2 : Int32))] []))
      refine Done.step (fun t k => XS.goto X109.here hx rfl (pc0 := 49) (pc' := 10) rfl (hb hby d4_49) (by decide) (by decide) k) ?_
      show Done p e below s _ _ _ (T109.setTop (mkF m 10 #[.val (.ref a1), .val (.ref a2), .val (.int (3 : Int32)), .val (.int (3 : Int32)), .val (.int (2 : Int32))] []))
      refine Done.step (fun t k => XS.iloadN X109.here hx rfl (hb hby d4_10) rfl k) ?_
      show Done p e below s _ _ _ (T109.setTop (mkF m 11 #[.val (.ref a1), .val (.ref a2), .val (.int (3 : Int32)), .val (.int (3 : Int32)), .val (.int (2 : Int32))] [(.int (3 : Int32))]))
      refine Done.step (fun t k => XS.iloadN X109.here hx rfl (hb hby d4_11) rfl k) ?_
      show Done p e below s _ _ _ (T109.setTop (mkF m 12 #[.val (.ref a1), .val (.ref a2), .val (.int (3 : Int32)), .val (.int (3 : Int32)), .val (.int (2 : Int32))] [(.int (3 : Int32)), (.int (3 : Int32))]))
      refine Done.step (fun t k => XS.icmpYes X109.here hx rfl (pc0 := 12) (pc' := 52) rfl (hb hby d4_12) rfl (flt (by decide)).2.1 (by decide) (by decide) k) ?_
      show Done p e below s _ _ _ (T109.setTop (mkF m 52 #[.val (.ref a1), .val (.ref a2), .val (.int (3 : Int32)), .val (.int (3 : Int32)), .val (.int (2 : Int32))] []))
      refine Done.step (fun t k => XS.iloadN X109.here hx rfl (hb hby d4_52) rfl k) ?_
      show Done p e below s _ _ _ (T109.setTop (mkF m 53 #[.val (.ref a1), .val (.ref a2), .val (.int (3 : Int32)), .val (.int (3 : Int32)), .val (.int (2 : Int32))] [(.int (3 : Int32))]))
      refine Done.step (fun t k => XS.ifNo X109.here hx rfl (hb hby d4_53) rfl ((if0 _ _).trans (tlt (by decide)).2.2.2) k) ?_
      show Done p e below s _ _ _ (T109.setTop (mkF m 56 #[.val (.ref a1), .val (.ref a2), .val (.int (3 : Int32)), .val (.int (3 : Int32)), .val (.int (2 : Int32))] []))
      refine Done.step (fun t k => XS.aloadN X109.here hx rfl (hb hby d4_56) rfl rfl k) ?_
      show Done p e below s _ _ _ (T109.setTop (mkF m 57 #[.val (.ref a1), .val (.ref a2), .val (.int (3 : Int32)), .val (.int (3 : Int32)), .val (.int (2 : Int32))] [(.ref a2)]))
      obtain ⟨T112, X112, e112, st112⟩ := getF X109 hx hZ hown (host := "") (Or.inl (hw _ (List.mem_of_getElem? (i := 28) rfl))) Via.refl e109 F2 (g := (mkF m 57 #[.val (.ref a1), .val (.ref a2), .val (.int (3 : Int32)), .val (.int (3 : Int32)), .val (.int (2 : Int32))] [(.ref a2)])) rfl rfl (hb hby d4_57)
      refine Done.step st112 ?_
      show Done p e below s _ _ _ (T112.setTop (mkF m 60 #[.val (.ref a1), .val (.ref a2), .val (.int (3 : Int32)), .val (.int (3 : Int32)), .val (.int (2 : Int32))] [(.int cc)]))
      refine Done.step (fun t k => XS.aloadN X112.here hx rfl (hb hby d4_60) rfl rfl k) ?_
      show Done p e below s _ _ _ (T112.setTop (mkF m 61 #[.val (.ref a1), .val (.ref a2), .val (.int (3 : Int32)), .val (.int (3 : Int32)), .val (.int (2 : Int32))] [(.ref a1), (.int cc)]))
      obtain ⟨T113, X113, e113, st113⟩ := getF X112 hx hZ hown (host := "") (Or.inl (hw _ (List.mem_of_getElem? (i := 30) rfl))) Via.refl e112 F1 (g := (mkF m 61 #[.val (.ref a1), .val (.ref a2), .val (.int (3 : Int32)), .val (.int (3 : Int32)), .val (.int (2 : Int32))] [(.ref a1), (.int cc)])) rfl rfl (hb hby d4_61)
      refine Done.step st113 ?_
      show Done p e below s _ _ _ (T113.setTop (mkF m 64 #[.val (.ref a1), .val (.ref a2), .val (.int (3 : Int32)), .val (.int (3 : Int32)), .val (.int (2 : Int32))] [(.ref ar), (.int cc)]))
      refine Done.step (fun t k => XS.iconst X113.here hx rfl (hb hby d4_64) k) ?_
      show Done p e below s _ _ _ (T113.setTop (mkF m 65 #[.val (.ref a1), .val (.ref a2), .val (.int (3 : Int32)), .val (.int (3 : Int32)), .val (.int (2 : Int32))] [(.int (2 : Int32)), (.ref ar), (.int cc)]))
      refine Done.step (fun t k => XS.iloadN X113.here hx rfl (hb hby d4_65) rfl k) ?_
      show Done p e below s _ _ _ (T113.setTop (mkF m 66 #[.val (.ref a1), .val (.ref a2), .val (.int (3 : Int32)), .val (.int (3 : Int32)), .val (.int (2 : Int32))] [(.int (3 : Int32)), (.int (2 : Int32)), (.ref ar), (.int cc)]))
      refine Done.step (fun t k => XS.imul X113.here hx rfl (hb hby d4_66) rfl k) ?_
      show Done p e below s _ _ _ (T113.setTop (mkF m 67 #[.val (.ref a1), .val (.ref a2), .val (.int (3 : Int32)), .val (.int (3 : Int32)), .val (.int (2 : Int32))] [(.int ((2 : Int32) * (3 : Int32))), (.ref ar), (.int cc)]))
      rw [show ((2 : Int32) * (3 : Int32)) = (6 : Int32) from by decide]
      show Done p e below s _ _ _ (T113.setTop (mkF m 67 #[.val (.ref a1), .val (.ref a2), .val (.int (3 : Int32)), .val (.int (3 : Int32)), .val (.int (2 : Int32))] [(.int (6 : Int32)), (.ref ar), (.int cc)]))
      refine Done.step (fun t k => XS.iconst X113.here hx rfl (hb hby d4_67) k) ?_
      show Done p e below s _ _ _ (T113.setTop (mkF m 68 #[.val (.ref a1), .val (.ref a2), .val (.int (3 : Int32)), .val (.int (3 : Int32)), .val (.int (2 : Int32))] [(.int (1 : Int32)), (.int (6 : Int32)), (.ref ar), (.int cc)]))
      refine Done.step (fun t k => XS.isub X113.here hx rfl (hb hby d4_68) rfl k) ?_
      show Done p e below s _ _ _ (T113.setTop (mkF m 69 #[.val (.ref a1), .val (.ref a2), .val (.int (3 : Int32)), .val (.int (3 : Int32)), .val (.int (2 : Int32))] [(.int ((6 : Int32) - (1 : Int32))), (.ref ar), (.int cc)]))
      rw [show ((6 : Int32) - (1 : Int32)) = (5 : Int32) from by decide]
      show Done p e below s _ _ _ (T113.setTop (mkF m 69 #[.val (.ref a1), .val (.ref a2), .val (.int (3 : Int32)), .val (.int (3 : Int32)), .val (.int (2 : Int32))] [(.int (5 : Int32)), (.ref ar), (.int cc)]))
      refine Done.step (ldI X113 hx hZ e113 A1 (j := (5 : Int32)) (x := (.int v5)) (by decide) rfl (g := (mkF m 69 #[.val (.ref a1), .val (.ref a2), .val (.int (3 : Int32)), .val (.int (3 : Int32)), .val (.int (2 : Int32))] [(.int (5 : Int32)), (.ref ar), (.int cc)])) rfl rfl (hb hby d4_69)) ?_
      show Done p e below s _ _ _ (T113.setTop (mkF m 70 #[.val (.ref a1), .val (.ref a2), .val (.int (3 : Int32)), .val (.int (3 : Int32)), .val (.int (2 : Int32))] [(.int v5), (.int cc)]))
      by_cases c6 : cc < v5
      · refine Done.step (fun t k => XS.icmpNo X113.here hx rfl (hb hby d4_70) rfl (tlt c6).2.1 k) ?_
        show Done p e below s _ _ _ (T113.setTop (mkF m 73 #[.val (.ref a1), .val (.ref a2), .val (.int (3 : Int32)), .val (.int (3 : Int32)), .val (.int (2 : Int32))] []))
        refine Done.step (fun t k => XS.iconst X113.here hx rfl (hb hby d4_73) k) ?_
        show Done p e below s _ _ _ (T113.setTop (mkF m 74 #[.val (.ref a1), .val (.ref a2), .val (.int (3 : Int32)), .val (.int (3 : Int32)), .val (.int (2 : Int32))] [(.int (1 : Int32))]))
        refine Done.step (fun t k => XS.goto X113.here hx rfl (pc0 := 74) (pc' := 78) rfl (hb hby d4_74) (by decide) (by decide) k) ?_
        show Done p e below s _ _ _ (T113.setTop (mkF m 78 #[.val (.ref a1), .val (.ref a2), .val (.int (3 : Int32)), .val (.int (3 : Int32)), .val (.int (2 : Int32))] [(.int (1 : Int32))]))
        exact Done.narr X113 hx hlk hret (by simp) (hb hby d4_78) (by decide) (by decide) ⟨by rw [← he, show CV3 v0 v1 v2 v3 v4 v5 cc = (1 : Int32) from by unfold CV3; rw [if_neg c1, if_neg c4, if_pos c6]] <;> rfl, N0, e113⟩
      · refine Done.step (fun t k => XS.icmpYes X113.here hx rfl (pc0 := 70) (pc' := 77) rfl (hb hby d4_70) rfl (flt c6).2.1 (by decide) (by decide) k) ?_
        show Done p e below s _ _ _ (T113.setTop (mkF m 77 #[.val (.ref a1), .val (.ref a2), .val (.int (3 : Int32)), .val (.int (3 : Int32)), .val (.int (2 : Int32))] []))
        refine Done.step (fun t k => XS.iconst X113.here hx rfl (hb hby d4_77) k) ?_
        show Done p e below s _ _ _ (T113.setTop (mkF m 78 #[.val (.ref a1), .val (.ref a2), .val (.int (3 : Int32)), .val (.int (3 : Int32)), .val (.int (2 : Int32))] [(.int (0 : Int32))]))
        exact Done.narr X113 hx hlk hret (by simp) (hb hby d4_78) (by decide) (by decide) ⟨by rw [← he, show CV3 v0 v1 v2 v3 v4 v5 cc = (0 : Int32) from by unfold CV3; rw [if_neg c1, if_neg c4, if_neg c6]] <;> rfl, N0, e113⟩
def CV4 (v0 v1 v2 v3 v4 v5 v6 v7 cc : Int32) : Int32 := (if cc < v4 then (if cc < v2 then (if cc < v0 then (0 : Int32)
      else (if cc < v1 then (1 : Int32)
        else (0 : Int32)))
    else (if cc < v3 then (1 : Int32)
      else (0 : Int32)))
  else (if cc < v6 then (if cc < v5 then (1 : Int32)
      else (0 : Int32))
    else (if cc < v7 then (1 : Int32)
      else (0 : Int32))))
def Qrmc4 (Z : State) (a1 : Addr) (a2 : Addr) (ar : Addr) (v0 v1 v2 v3 v4 v5 v6 v7 cc ee : Int32) (h0 : Heap) (n0 : Nat) : Option Value → Heap → List Loc → Prop := fun v h L => v = some (.int ee) ∧ Fr n0 L ∧ h = h0
set_option maxRecDepth 65536 in
set_option maxHeartbeats 40000000 in
theorem rmc4 (l : Launch) (Z : State) (a0 : Array Value) (hw : ∀ d ∈ tables_1, d.before a0 Z = true) (ws : List Jvm.Cond) (a1 : Addr) (a2 : Addr) (ar : Addr) (v0 v1 v2 v3 v4 v5 v6 v7 cc ee : Int32) (h0 : Heap) (n0 : Nat) (Z0 : n0 ≤ h0.size) (F1 : Fld Z h0 a1 "com/example/ruled_ledger/ruledledger/model/CatchHandler" "ranges" "[I" (.ref ar)) (A1 : Ax Z h0 ar .int [(.int v0), (.int v1), (.int v2), (.int v3), (.int v4), (.int v5), (.int v6), (.int v7)]) (F2 : Fld Z h0 a2 "com/example/ruled_ledger/ruledledger/model/CatchHandler" "codeStart" "I" (.int cc)) (he : CV4 v0 v1 v2 v3 v4 v5 v6 v7 cc = ee) :
    MetFree l (⟨"com/example/ruled_ledger/ruledledger/model/CatchHandler", "coversCodeOf", "(Lcom/example/ruled_ledger/ruledledger/model/CatchHandler;)Z"⟩ : MethodName) (head1 (Jvm.Cond.code (⟨"com/example/ruled_ledger/ruledledger/model/CatchHandler", "coversCodeOf", "(Lcom/example/ruled_ledger/ruledledger/model/CatchHandler;)Z"⟩ : MethodName) prog_13_method_4_code 5 (some .boolean) :: ws) ({ frames := 0, cells := 0, slots := 0, locals := 0 } : Room)) (fun a U => a = #[(.ref a1), (.ref a2)] ∧ Z.Warmed39 U.vm ∧ U.heap = h0) (fun _ _ _ _ _ => True) (fun _ U o U' => ∃ v L, o = .returned v ∧ Qrmc4 Z a1 a2 ar v0 v1 v2 v3 v4 v5 v6 v7 cc ee h0 n0 v U'.heap L ∧ FrameEnd U o U' L ({ frames := 0, cells := 0, slots := 0, locals := 0 } : Room).cells ({ frames := 0, cells := 0, slots := 0, locals := 0 } : Room).slots) := by
  refine MetFree.of_bodySF (plainFor_of_name pn_4) hisR ?_
  intro p e s m args below meth c s₁ Bd hml0 hP hK
  obtain ⟨rfl, hZ, hhp⟩ := hP
  have hx := Bd.exec
  have hby := Bd.bytes
  have hml : c.maxLocals = 5 := hml0
  have hown : s.vm.findClass "com/example/ruled_ledger/ruledledger/model/CatchHandler" = some m.cls := findClass_of_methodNamed Bd.named
  have hnm := (name_of_methodNamed Bd.named Bd.method).1
  have hlk : meth.locks = false := BodyLoose.notSynchronized Bd
  have hret := Bd.returns
  have X0 : Stand p l e ({ frames := 0, cells := 0, slots := 0, locals := 0 } : Room) s m #[(.ref a1), (.ref a2)] below meth c s₁ [] 0 0 := Stand.of_body Bd
  have e0 : s₁.heap = h0 := by rw [← hhp, Bd.state]; rfl
  have N0 := Fr.nil n0
  show Done p e below s (Qrmc4 Z a1 a2 ar v0 v1 v2 v3 v4 v5 v6 v7 cc ee h0 n0) ({ frames := 0, cells := 0, slots := 0, locals := 0 } : Room).cells ({ frames := 0, cells := 0, slots := 0, locals := 0 } : Room).slots (s₁.setTop (entryFrame m #[(.ref a1), (.ref a2)] 5))
  refine Done.step (fun t k => castTop (ef_4 m a1 a2) k) ?_
  show Done p e below s _ _ _ (s₁.setTop (mkF m 0 #[.val (.ref a1), .val (.ref a2), .unset, .unset, .unset] []))
  refine Done.step (fun t k => XS.iconst X0.here hx rfl (hb hby d4_0) k) ?_
  show Done p e below s _ _ _ (s₁.setTop (mkF m 1 #[.val (.ref a1), .val (.ref a2), .unset, .unset, .unset] [(.int (0 : Int32))]))
  refine Done.step (fun t k => XS.istoreN X0.here hx rfl (hb hby d4_1) rfl (l' := #[.val (.ref a1), .val (.ref a2), .val (.int (0 : Int32)), .unset, .unset]) rfl k) ?_
  show Done p e below s _ _ _ (s₁.setTop (mkF m 2 #[.val (.ref a1), .val (.ref a2), .val (.int (0 : Int32)), .unset, .unset] []))
  refine Done.step (fun t k => XS.aloadN X0.here hx rfl (hb hby d4_2) rfl rfl k) ?_
  show Done p e below s _ _ _ (s₁.setTop (mkF m 3 #[.val (.ref a1), .val (.ref a2), .val (.int (0 : Int32)), .unset, .unset] [(.ref a1)]))
  obtain ⟨T101, X101, e101, st101⟩ := getF X0 hx hZ hown (host := "") (Or.inl (hw _ (List.mem_of_getElem? (i := 30) rfl))) Via.refl e0 F1 (g := (mkF m 3 #[.val (.ref a1), .val (.ref a2), .val (.int (0 : Int32)), .unset, .unset] [(.ref a1)])) rfl rfl (hb hby d4_3)
  refine Done.step st101 ?_
  show Done p e below s _ _ _ (T101.setTop (mkF m 6 #[.val (.ref a1), .val (.ref a2), .val (.int (0 : Int32)), .unset, .unset] [(.ref ar)]))
  refine Done.step (lenA X101 hx hZ e101 A1 (n := (8 : Int32)) rfl (g := (mkF m 6 #[.val (.ref a1), .val (.ref a2), .val (.int (0 : Int32)), .unset, .unset] [(.ref ar)])) rfl rfl (hb hby d4_6)) ?_
  show Done p e below s _ _ _ (T101.setTop (mkF m 7 #[.val (.ref a1), .val (.ref a2), .val (.int (0 : Int32)), .unset, .unset] [(.int (8 : Int32))]))
  refine Done.step (fun t k => XS.iconst X101.here hx rfl (hb hby d4_7) k) ?_
  show Done p e below s _ _ _ (T101.setTop (mkF m 8 #[.val (.ref a1), .val (.ref a2), .val (.int (0 : Int32)), .unset, .unset] [(.int (2 : Int32)), (.int (8 : Int32))]))
  refine Done.step (fun t k => XS.idiv X101.here hx rfl (hb hby d4_8) rfl (by decide) k) ?_
  show Done p e below s _ _ _ (T101.setTop (mkF m 9 #[.val (.ref a1), .val (.ref a2), .val (.int (0 : Int32)), .unset, .unset] [(.int ((8 : Int32) / (2 : Int32)))]))
  rw [show ((8 : Int32) / (2 : Int32)) = (4 : Int32) from by decide]
  show Done p e below s _ _ _ (T101.setTop (mkF m 9 #[.val (.ref a1), .val (.ref a2), .val (.int (0 : Int32)), .unset, .unset] [(.int (4 : Int32))]))
  refine Done.step (fun t k => XS.istoreN X101.here hx rfl (hb hby d4_9) rfl (l' := #[.val (.ref a1), .val (.ref a2), .val (.int (0 : Int32)), .val (.int (4 : Int32)), .unset]) rfl k) ?_
  show Done p e below s _ _ _ (T101.setTop (mkF m 10 #[.val (.ref a1), .val (.ref a2), .val (.int (0 : Int32)), .val (.int (4 : Int32)), .unset] []))
  refine Done.step (fun t k => XS.iloadN X101.here hx rfl (hb hby d4_10) rfl k) ?_
  show Done p e below s _ _ _ (T101.setTop (mkF m 11 #[.val (.ref a1), .val (.ref a2), .val (.int (0 : Int32)), .val (.int (4 : Int32)), .unset] [(.int (0 : Int32))]))
  refine Done.step (fun t k => XS.iloadN X101.here hx rfl (hb hby d4_11) rfl k) ?_
  show Done p e below s _ _ _ (T101.setTop (mkF m 12 #[.val (.ref a1), .val (.ref a2), .val (.int (0 : Int32)), .val (.int (4 : Int32)), .unset] [(.int (4 : Int32)), (.int (0 : Int32))]))
  refine Done.step (fun t k => XS.icmpNo X101.here hx rfl (hb hby d4_12) rfl (tlt (by decide)).2.1 k) ?_
  show Done p e below s _ _ _ (T101.setTop (mkF m 15 #[.val (.ref a1), .val (.ref a2), .val (.int (0 : Int32)), .val (.int (4 : Int32)), .unset] []))
  refine Done.step (fun t k => XS.iloadN X101.here hx rfl (hb hby d4_15) rfl k) ?_
  show Done p e below s _ _ _ (T101.setTop (mkF m 16 #[.val (.ref a1), .val (.ref a2), .val (.int (0 : Int32)), .val (.int (4 : Int32)), .unset] [(.int (0 : Int32))]))
  refine Done.step (fun t k => XS.iloadN X101.here hx rfl (hb hby d4_16) rfl k) ?_
  show Done p e below s _ _ _ (T101.setTop (mkF m 17 #[.val (.ref a1), .val (.ref a2), .val (.int (0 : Int32)), .val (.int (4 : Int32)), .unset] [(.int (4 : Int32)), (.int (0 : Int32))]))
  refine Done.step (fun t k => XS.iadd X101.here hx rfl (hb hby d4_17) rfl k) ?_
  show Done p e below s _ _ _ (T101.setTop (mkF m 18 #[.val (.ref a1), .val (.ref a2), .val (.int (0 : Int32)), .val (.int (4 : Int32)), .unset] [(.int ((0 : Int32) + (4 : Int32)))]))
  rw [show ((0 : Int32) + (4 : Int32)) = (4 : Int32) from by decide]
  show Done p e below s _ _ _ (T101.setTop (mkF m 18 #[.val (.ref a1), .val (.ref a2), .val (.int (0 : Int32)), .val (.int (4 : Int32)), .unset] [(.int (4 : Int32))]))
  refine Done.step (fun t k => XS.iconst X101.here hx rfl (hb hby d4_18) k) ?_
  show Done p e below s _ _ _ (T101.setTop (mkF m 19 #[.val (.ref a1), .val (.ref a2), .val (.int (0 : Int32)), .val (.int (4 : Int32)), .unset] [(.int (1 : Int32)), (.int (4 : Int32))]))
  refine Done.step (fun t k => XS.iushr X101.here hx rfl (hb hby d4_19) rfl k) ?_
  show Done p e below s _ _ _ (T101.setTop (mkF m 20 #[.val (.ref a1), .val (.ref a2), .val (.int (0 : Int32)), .val (.int (4 : Int32)), .unset] [(.int (((4 : Int32).toUInt32 >>> ((1 : Int32) &&& 31).toUInt32).toInt32))]))
  rw [show (((4 : Int32).toUInt32 >>> ((1 : Int32) &&& 31).toUInt32).toInt32) = (2 : Int32) from by decide]
  show Done p e below s _ _ _ (T101.setTop (mkF m 20 #[.val (.ref a1), .val (.ref a2), .val (.int (0 : Int32)), .val (.int (4 : Int32)), .unset] [(.int (2 : Int32))]))
  refine Done.step (fun t k => XS.istore X101.here hx rfl (hb hby d4_20) rfl (l' := #[.val (.ref a1), .val (.ref a2), .val (.int (0 : Int32)), .val (.int (4 : Int32)), .val (.int (2 : Int32))]) rfl k) ?_
  show Done p e below s _ _ _ (T101.setTop (mkF m 22 #[.val (.ref a1), .val (.ref a2), .val (.int (0 : Int32)), .val (.int (4 : Int32)), .val (.int (2 : Int32))] []))
  refine Done.step (fun t k => XS.aloadN X101.here hx rfl (hb hby d4_22) rfl rfl k) ?_
  show Done p e below s _ _ _ (T101.setTop (mkF m 23 #[.val (.ref a1), .val (.ref a2), .val (.int (0 : Int32)), .val (.int (4 : Int32)), .val (.int (2 : Int32))] [(.ref a1)]))
  obtain ⟨T102, X102, e102, st102⟩ := getF X101 hx hZ hown (host := "") (Or.inl (hw _ (List.mem_of_getElem? (i := 30) rfl))) Via.refl e101 F1 (g := (mkF m 23 #[.val (.ref a1), .val (.ref a2), .val (.int (0 : Int32)), .val (.int (4 : Int32)), .val (.int (2 : Int32))] [(.ref a1)])) rfl rfl (hb hby d4_23)
  refine Done.step st102 ?_
  show Done p e below s _ _ _ (T102.setTop (mkF m 26 #[.val (.ref a1), .val (.ref a2), .val (.int (0 : Int32)), .val (.int (4 : Int32)), .val (.int (2 : Int32))] [(.ref ar)]))
  refine Done.step (fun t k => XS.iconst X102.here hx rfl (hb hby d4_26) k) ?_
  show Done p e below s _ _ _ (T102.setTop (mkF m 27 #[.val (.ref a1), .val (.ref a2), .val (.int (0 : Int32)), .val (.int (4 : Int32)), .val (.int (2 : Int32))] [(.int (2 : Int32)), (.ref ar)]))
  refine Done.step (fun t k => XS.iload X102.here hx rfl (hb hby d4_27) rfl k) ?_
  show Done p e below s _ _ _ (T102.setTop (mkF m 29 #[.val (.ref a1), .val (.ref a2), .val (.int (0 : Int32)), .val (.int (4 : Int32)), .val (.int (2 : Int32))] [(.int (2 : Int32)), (.int (2 : Int32)), (.ref ar)]))
  refine Done.step (fun t k => XS.imul X102.here hx rfl (hb hby d4_29) rfl k) ?_
  show Done p e below s _ _ _ (T102.setTop (mkF m 30 #[.val (.ref a1), .val (.ref a2), .val (.int (0 : Int32)), .val (.int (4 : Int32)), .val (.int (2 : Int32))] [(.int ((2 : Int32) * (2 : Int32))), (.ref ar)]))
  rw [show ((2 : Int32) * (2 : Int32)) = (4 : Int32) from by decide]
  show Done p e below s _ _ _ (T102.setTop (mkF m 30 #[.val (.ref a1), .val (.ref a2), .val (.int (0 : Int32)), .val (.int (4 : Int32)), .val (.int (2 : Int32))] [(.int (4 : Int32)), (.ref ar)]))
  refine Done.step (ldI X102 hx hZ e102 A1 (j := (4 : Int32)) (x := (.int v4)) (by decide) rfl (g := (mkF m 30 #[.val (.ref a1), .val (.ref a2), .val (.int (0 : Int32)), .val (.int (4 : Int32)), .val (.int (2 : Int32))] [(.int (4 : Int32)), (.ref ar)])) rfl rfl (hb hby d4_30)) ?_
  show Done p e below s _ _ _ (T102.setTop (mkF m 31 #[.val (.ref a1), .val (.ref a2), .val (.int (0 : Int32)), .val (.int (4 : Int32)), .val (.int (2 : Int32))] [(.int v4)]))
  refine Done.step (fun t k => XS.aloadN X102.here hx rfl (hb hby d4_31) rfl rfl k) ?_
  show Done p e below s _ _ _ (T102.setTop (mkF m 32 #[.val (.ref a1), .val (.ref a2), .val (.int (0 : Int32)), .val (.int (4 : Int32)), .val (.int (2 : Int32))] [(.ref a2), (.int v4)]))
  obtain ⟨T103, X103, e103, st103⟩ := getF X102 hx hZ hown (host := "") (Or.inl (hw _ (List.mem_of_getElem? (i := 28) rfl))) Via.refl e102 F2 (g := (mkF m 32 #[.val (.ref a1), .val (.ref a2), .val (.int (0 : Int32)), .val (.int (4 : Int32)), .val (.int (2 : Int32))] [(.ref a2), (.int v4)])) rfl rfl (hb hby d4_32)
  refine Done.step st103 ?_
  show Done p e below s _ _ _ (T103.setTop (mkF m 35 #[.val (.ref a1), .val (.ref a2), .val (.int (0 : Int32)), .val (.int (4 : Int32)), .val (.int (2 : Int32))] [(.int cc), (.int v4)]))
  by_cases c1 : cc < v4
  · refine Done.step (fun t k => XS.icmpYes X103.here hx rfl (pc0 := 35) (pc' := 46) rfl (hb hby d4_35) rfl (tlt c1).2.2.1 (by decide) (by decide) k) ?_
    show Done p e below s _ _ _ (T103.setTop (mkF m 46 #[.val (.ref a1), .val (.ref a2), .val (.int (0 : Int32)), .val (.int (4 : Int32)), .val (.int (2 : Int32))] []))
    refine Done.step (fun t k => XS.iload X103.here hx rfl (hb hby d4_46) rfl k) ?_
    show Done p e below s _ _ _ (T103.setTop (mkF m 48 #[.val (.ref a1), .val (.ref a2), .val (.int (0 : Int32)), .val (.int (4 : Int32)), .val (.int (2 : Int32))] [(.int (2 : Int32))]))
    refine Done.step (fun t k => XS.istoreN X103.here hx rfl (hb hby d4_48) rfl (l' := #[.val (.ref a1), .val (.ref a2), .val (.int (0 : Int32)), .val (.int (2 : Int32)), .val (.int (2 : Int32))]) rfl k) ?_
    show Done p e below s _ _ _ (T103.setTop (mkF m 49 #[.val (.ref a1), .val (.ref a2), .val (.int (0 : Int32)), .val (.int (2 : Int32)), .val (.int (2 : Int32))] []))
    refine Done.step (fun t k => XS.goto X103.here hx rfl (pc0 := 49) (pc' := 10) rfl (hb hby d4_49) (by decide) (by decide) k) ?_
    show Done p e below s _ _ _ (T103.setTop (mkF m 10 #[.val (.ref a1), .val (.ref a2), .val (.int (0 : Int32)), .val (.int (2 : Int32)), .val (.int (2 : Int32))] []))
    refine Done.step (fun t k => XS.iloadN X103.here hx rfl (hb hby d4_10) rfl k) ?_
    show Done p e below s _ _ _ (T103.setTop (mkF m 11 #[.val (.ref a1), .val (.ref a2), .val (.int (0 : Int32)), .val (.int (2 : Int32)), .val (.int (2 : Int32))] [(.int (0 : Int32))]))
    refine Done.step (fun t k => XS.iloadN X103.here hx rfl (hb hby d4_11) rfl k) ?_
    show Done p e below s _ _ _ (T103.setTop (mkF m 12 #[.val (.ref a1), .val (.ref a2), .val (.int (0 : Int32)), .val (.int (2 : Int32)), .val (.int (2 : Int32))] [(.int (2 : Int32)), (.int (0 : Int32))]))
    refine Done.step (fun t k => XS.icmpNo X103.here hx rfl (hb hby d4_12) rfl (tlt (by decide)).2.1 k) ?_
    show Done p e below s _ _ _ (T103.setTop (mkF m 15 #[.val (.ref a1), .val (.ref a2), .val (.int (0 : Int32)), .val (.int (2 : Int32)), .val (.int (2 : Int32))] []))
    refine Done.step (fun t k => XS.iloadN X103.here hx rfl (hb hby d4_15) rfl k) ?_
    show Done p e below s _ _ _ (T103.setTop (mkF m 16 #[.val (.ref a1), .val (.ref a2), .val (.int (0 : Int32)), .val (.int (2 : Int32)), .val (.int (2 : Int32))] [(.int (0 : Int32))]))
    refine Done.step (fun t k => XS.iloadN X103.here hx rfl (hb hby d4_16) rfl k) ?_
    show Done p e below s _ _ _ (T103.setTop (mkF m 17 #[.val (.ref a1), .val (.ref a2), .val (.int (0 : Int32)), .val (.int (2 : Int32)), .val (.int (2 : Int32))] [(.int (2 : Int32)), (.int (0 : Int32))]))
    refine Done.step (fun t k => XS.iadd X103.here hx rfl (hb hby d4_17) rfl k) ?_
    show Done p e below s _ _ _ (T103.setTop (mkF m 18 #[.val (.ref a1), .val (.ref a2), .val (.int (0 : Int32)), .val (.int (2 : Int32)), .val (.int (2 : Int32))] [(.int ((0 : Int32) + (2 : Int32)))]))
    rw [show ((0 : Int32) + (2 : Int32)) = (2 : Int32) from by decide]
    show Done p e below s _ _ _ (T103.setTop (mkF m 18 #[.val (.ref a1), .val (.ref a2), .val (.int (0 : Int32)), .val (.int (2 : Int32)), .val (.int (2 : Int32))] [(.int (2 : Int32))]))
    refine Done.step (fun t k => XS.iconst X103.here hx rfl (hb hby d4_18) k) ?_
    show Done p e below s _ _ _ (T103.setTop (mkF m 19 #[.val (.ref a1), .val (.ref a2), .val (.int (0 : Int32)), .val (.int (2 : Int32)), .val (.int (2 : Int32))] [(.int (1 : Int32)), (.int (2 : Int32))]))
    refine Done.step (fun t k => XS.iushr X103.here hx rfl (hb hby d4_19) rfl k) ?_
    show Done p e below s _ _ _ (T103.setTop (mkF m 20 #[.val (.ref a1), .val (.ref a2), .val (.int (0 : Int32)), .val (.int (2 : Int32)), .val (.int (2 : Int32))] [(.int (((2 : Int32).toUInt32 >>> ((1 : Int32) &&& 31).toUInt32).toInt32))]))
    rw [show (((2 : Int32).toUInt32 >>> ((1 : Int32) &&& 31).toUInt32).toInt32) = (1 : Int32) from by decide]
    show Done p e below s _ _ _ (T103.setTop (mkF m 20 #[.val (.ref a1), .val (.ref a2), .val (.int (0 : Int32)), .val (.int (2 : Int32)), .val (.int (2 : Int32))] [(.int (1 : Int32))]))
    refine Done.step (fun t k => XS.istore X103.here hx rfl (hb hby d4_20) rfl (l' := #[.val (.ref a1), .val (.ref a2), .val (.int (0 : Int32)), .val (.int (2 : Int32)), .val (.int (1 : Int32))]) rfl k) ?_
    show Done p e below s _ _ _ (T103.setTop (mkF m 22 #[.val (.ref a1), .val (.ref a2), .val (.int (0 : Int32)), .val (.int (2 : Int32)), .val (.int (1 : Int32))] []))
    refine Done.step (fun t k => XS.aloadN X103.here hx rfl (hb hby d4_22) rfl rfl k) ?_
    show Done p e below s _ _ _ (T103.setTop (mkF m 23 #[.val (.ref a1), .val (.ref a2), .val (.int (0 : Int32)), .val (.int (2 : Int32)), .val (.int (1 : Int32))] [(.ref a1)]))
    obtain ⟨T104, X104, e104, st104⟩ := getF X103 hx hZ hown (host := "") (Or.inl (hw _ (List.mem_of_getElem? (i := 30) rfl))) Via.refl e103 F1 (g := (mkF m 23 #[.val (.ref a1), .val (.ref a2), .val (.int (0 : Int32)), .val (.int (2 : Int32)), .val (.int (1 : Int32))] [(.ref a1)])) rfl rfl (hb hby d4_23)
    refine Done.step st104 ?_
    show Done p e below s _ _ _ (T104.setTop (mkF m 26 #[.val (.ref a1), .val (.ref a2), .val (.int (0 : Int32)), .val (.int (2 : Int32)), .val (.int (1 : Int32))] [(.ref ar)]))
    refine Done.step (fun t k => XS.iconst X104.here hx rfl (hb hby d4_26) k) ?_
    show Done p e below s _ _ _ (T104.setTop (mkF m 27 #[.val (.ref a1), .val (.ref a2), .val (.int (0 : Int32)), .val (.int (2 : Int32)), .val (.int (1 : Int32))] [(.int (2 : Int32)), (.ref ar)]))
    refine Done.step (fun t k => XS.iload X104.here hx rfl (hb hby d4_27) rfl k) ?_
    show Done p e below s _ _ _ (T104.setTop (mkF m 29 #[.val (.ref a1), .val (.ref a2), .val (.int (0 : Int32)), .val (.int (2 : Int32)), .val (.int (1 : Int32))] [(.int (1 : Int32)), (.int (2 : Int32)), (.ref ar)]))
    refine Done.step (fun t k => XS.imul X104.here hx rfl (hb hby d4_29) rfl k) ?_
    show Done p e below s _ _ _ (T104.setTop (mkF m 30 #[.val (.ref a1), .val (.ref a2), .val (.int (0 : Int32)), .val (.int (2 : Int32)), .val (.int (1 : Int32))] [(.int ((2 : Int32) * (1 : Int32))), (.ref ar)]))
    rw [show ((2 : Int32) * (1 : Int32)) = (2 : Int32) from by decide]
    show Done p e below s _ _ _ (T104.setTop (mkF m 30 #[.val (.ref a1), .val (.ref a2), .val (.int (0 : Int32)), .val (.int (2 : Int32)), .val (.int (1 : Int32))] [(.int (2 : Int32)), (.ref ar)]))
    refine Done.step (ldI X104 hx hZ e104 A1 (j := (2 : Int32)) (x := (.int v2)) (by decide) rfl (g := (mkF m 30 #[.val (.ref a1), .val (.ref a2), .val (.int (0 : Int32)), .val (.int (2 : Int32)), .val (.int (1 : Int32))] [(.int (2 : Int32)), (.ref ar)])) rfl rfl (hb hby d4_30)) ?_
    show Done p e below s _ _ _ (T104.setTop (mkF m 31 #[.val (.ref a1), .val (.ref a2), .val (.int (0 : Int32)), .val (.int (2 : Int32)), .val (.int (1 : Int32))] [(.int v2)]))
    refine Done.step (fun t k => XS.aloadN X104.here hx rfl (hb hby d4_31) rfl rfl k) ?_
    show Done p e below s _ _ _ (T104.setTop (mkF m 32 #[.val (.ref a1), .val (.ref a2), .val (.int (0 : Int32)), .val (.int (2 : Int32)), .val (.int (1 : Int32))] [(.ref a2), (.int v2)]))
    obtain ⟨T105, X105, e105, st105⟩ := getF X104 hx hZ hown (host := "") (Or.inl (hw _ (List.mem_of_getElem? (i := 28) rfl))) Via.refl e104 F2 (g := (mkF m 32 #[.val (.ref a1), .val (.ref a2), .val (.int (0 : Int32)), .val (.int (2 : Int32)), .val (.int (1 : Int32))] [(.ref a2), (.int v2)])) rfl rfl (hb hby d4_32)
    refine Done.step st105 ?_
    show Done p e below s _ _ _ (T105.setTop (mkF m 35 #[.val (.ref a1), .val (.ref a2), .val (.int (0 : Int32)), .val (.int (2 : Int32)), .val (.int (1 : Int32))] [(.int cc), (.int v2)]))
    by_cases c2 : cc < v2
    · refine Done.step (fun t k => XS.icmpYes X105.here hx rfl (pc0 := 35) (pc' := 46) rfl (hb hby d4_35) rfl (tlt c2).2.2.1 (by decide) (by decide) k) ?_
      show Done p e below s _ _ _ (T105.setTop (mkF m 46 #[.val (.ref a1), .val (.ref a2), .val (.int (0 : Int32)), .val (.int (2 : Int32)), .val (.int (1 : Int32))] []))
      refine Done.step (fun t k => XS.iload X105.here hx rfl (hb hby d4_46) rfl k) ?_
      show Done p e below s _ _ _ (T105.setTop (mkF m 48 #[.val (.ref a1), .val (.ref a2), .val (.int (0 : Int32)), .val (.int (2 : Int32)), .val (.int (1 : Int32))] [(.int (1 : Int32))]))
      refine Done.step (fun t k => XS.istoreN X105.here hx rfl (hb hby d4_48) rfl (l' := #[.val (.ref a1), .val (.ref a2), .val (.int (0 : Int32)), .val (.int (1 : Int32)), .val (.int (1 : Int32))]) rfl k) ?_
      show Done p e below s _ _ _ (T105.setTop (mkF m 49 #[.val (.ref a1), .val (.ref a2), .val (.int (0 : Int32)), .val (.int (1 : Int32)), .val (.int (1 : Int32))] []))
      refine Done.step (fun t k => XS.goto X105.here hx rfl (pc0 := 49) (pc' := 10) rfl (hb hby d4_49) (by decide) (by decide) k) ?_
      show Done p e below s _ _ _ (T105.setTop (mkF m 10 #[.val (.ref a1), .val (.ref a2), .val (.int (0 : Int32)), .val (.int (1 : Int32)), .val (.int (1 : Int32))] []))
      refine Done.step (fun t k => XS.iloadN X105.here hx rfl (hb hby d4_10) rfl k) ?_
      show Done p e below s _ _ _ (T105.setTop (mkF m 11 #[.val (.ref a1), .val (.ref a2), .val (.int (0 : Int32)), .val (.int (1 : Int32)), .val (.int (1 : Int32))] [(.int (0 : Int32))]))
      refine Done.step (fun t k => XS.iloadN X105.here hx rfl (hb hby d4_11) rfl k) ?_
      show Done p e below s _ _ _ (T105.setTop (mkF m 12 #[.val (.ref a1), .val (.ref a2), .val (.int (0 : Int32)), .val (.int (1 : Int32)), .val (.int (1 : Int32))] [(.int (1 : Int32)), (.int (0 : Int32))]))
      refine Done.step (fun t k => XS.icmpNo X105.here hx rfl (hb hby d4_12) rfl (tlt (by decide)).2.1 k) ?_
      show Done p e below s _ _ _ (T105.setTop (mkF m 15 #[.val (.ref a1), .val (.ref a2), .val (.int (0 : Int32)), .val (.int (1 : Int32)), .val (.int (1 : Int32))] []))
      refine Done.step (fun t k => XS.iloadN X105.here hx rfl (hb hby d4_15) rfl k) ?_
      show Done p e below s _ _ _ (T105.setTop (mkF m 16 #[.val (.ref a1), .val (.ref a2), .val (.int (0 : Int32)), .val (.int (1 : Int32)), .val (.int (1 : Int32))] [(.int (0 : Int32))]))
      refine Done.step (fun t k => XS.iloadN X105.here hx rfl (hb hby d4_16) rfl k) ?_
      show Done p e below s _ _ _ (T105.setTop (mkF m 17 #[.val (.ref a1), .val (.ref a2), .val (.int (0 : Int32)), .val (.int (1 : Int32)), .val (.int (1 : Int32))] [(.int (1 : Int32)), (.int (0 : Int32))]))
      refine Done.step (fun t k => XS.iadd X105.here hx rfl (hb hby d4_17) rfl k) ?_
      show Done p e below s _ _ _ (T105.setTop (mkF m 18 #[.val (.ref a1), .val (.ref a2), .val (.int (0 : Int32)), .val (.int (1 : Int32)), .val (.int (1 : Int32))] [(.int ((0 : Int32) + (1 : Int32)))]))
      rw [show ((0 : Int32) + (1 : Int32)) = (1 : Int32) from by decide]
      show Done p e below s _ _ _ (T105.setTop (mkF m 18 #[.val (.ref a1), .val (.ref a2), .val (.int (0 : Int32)), .val (.int (1 : Int32)), .val (.int (1 : Int32))] [(.int (1 : Int32))]))
      refine Done.step (fun t k => XS.iconst X105.here hx rfl (hb hby d4_18) k) ?_
      show Done p e below s _ _ _ (T105.setTop (mkF m 19 #[.val (.ref a1), .val (.ref a2), .val (.int (0 : Int32)), .val (.int (1 : Int32)), .val (.int (1 : Int32))] [(.int (1 : Int32)), (.int (1 : Int32))]))
      refine Done.step (fun t k => XS.iushr X105.here hx rfl (hb hby d4_19) rfl k) ?_
      show Done p e below s _ _ _ (T105.setTop (mkF m 20 #[.val (.ref a1), .val (.ref a2), .val (.int (0 : Int32)), .val (.int (1 : Int32)), .val (.int (1 : Int32))] [(.int (((1 : Int32).toUInt32 >>> ((1 : Int32) &&& 31).toUInt32).toInt32))]))
      rw [show (((1 : Int32).toUInt32 >>> ((1 : Int32) &&& 31).toUInt32).toInt32) = (0 : Int32) from by decide]
      show Done p e below s _ _ _ (T105.setTop (mkF m 20 #[.val (.ref a1), .val (.ref a2), .val (.int (0 : Int32)), .val (.int (1 : Int32)), .val (.int (1 : Int32))] [(.int (0 : Int32))]))
      refine Done.step (fun t k => XS.istore X105.here hx rfl (hb hby d4_20) rfl (l' := #[.val (.ref a1), .val (.ref a2), .val (.int (0 : Int32)), .val (.int (1 : Int32)), .val (.int (0 : Int32))]) rfl k) ?_
      show Done p e below s _ _ _ (T105.setTop (mkF m 22 #[.val (.ref a1), .val (.ref a2), .val (.int (0 : Int32)), .val (.int (1 : Int32)), .val (.int (0 : Int32))] []))
      refine Done.step (fun t k => XS.aloadN X105.here hx rfl (hb hby d4_22) rfl rfl k) ?_
      show Done p e below s _ _ _ (T105.setTop (mkF m 23 #[.val (.ref a1), .val (.ref a2), .val (.int (0 : Int32)), .val (.int (1 : Int32)), .val (.int (0 : Int32))] [(.ref a1)]))
      obtain ⟨T106, X106, e106, st106⟩ := getF X105 hx hZ hown (host := "") (Or.inl (hw _ (List.mem_of_getElem? (i := 30) rfl))) Via.refl e105 F1 (g := (mkF m 23 #[.val (.ref a1), .val (.ref a2), .val (.int (0 : Int32)), .val (.int (1 : Int32)), .val (.int (0 : Int32))] [(.ref a1)])) rfl rfl (hb hby d4_23)
      refine Done.step st106 ?_
      show Done p e below s _ _ _ (T106.setTop (mkF m 26 #[.val (.ref a1), .val (.ref a2), .val (.int (0 : Int32)), .val (.int (1 : Int32)), .val (.int (0 : Int32))] [(.ref ar)]))
      refine Done.step (fun t k => XS.iconst X106.here hx rfl (hb hby d4_26) k) ?_
      show Done p e below s _ _ _ (T106.setTop (mkF m 27 #[.val (.ref a1), .val (.ref a2), .val (.int (0 : Int32)), .val (.int (1 : Int32)), .val (.int (0 : Int32))] [(.int (2 : Int32)), (.ref ar)]))
      refine Done.step (fun t k => XS.iload X106.here hx rfl (hb hby d4_27) rfl k) ?_
      show Done p e below s _ _ _ (T106.setTop (mkF m 29 #[.val (.ref a1), .val (.ref a2), .val (.int (0 : Int32)), .val (.int (1 : Int32)), .val (.int (0 : Int32))] [(.int (0 : Int32)), (.int (2 : Int32)), (.ref ar)]))
      refine Done.step (fun t k => XS.imul X106.here hx rfl (hb hby d4_29) rfl k) ?_
      show Done p e below s _ _ _ (T106.setTop (mkF m 30 #[.val (.ref a1), .val (.ref a2), .val (.int (0 : Int32)), .val (.int (1 : Int32)), .val (.int (0 : Int32))] [(.int ((2 : Int32) * (0 : Int32))), (.ref ar)]))
      rw [show ((2 : Int32) * (0 : Int32)) = (0 : Int32) from by decide]
      show Done p e below s _ _ _ (T106.setTop (mkF m 30 #[.val (.ref a1), .val (.ref a2), .val (.int (0 : Int32)), .val (.int (1 : Int32)), .val (.int (0 : Int32))] [(.int (0 : Int32)), (.ref ar)]))
      refine Done.step (ldI X106 hx hZ e106 A1 (j := (0 : Int32)) (x := (.int v0)) (by decide) rfl (g := (mkF m 30 #[.val (.ref a1), .val (.ref a2), .val (.int (0 : Int32)), .val (.int (1 : Int32)), .val (.int (0 : Int32))] [(.int (0 : Int32)), (.ref ar)])) rfl rfl (hb hby d4_30)) ?_
      show Done p e below s _ _ _ (T106.setTop (mkF m 31 #[.val (.ref a1), .val (.ref a2), .val (.int (0 : Int32)), .val (.int (1 : Int32)), .val (.int (0 : Int32))] [(.int v0)]))
      refine Done.step (fun t k => XS.aloadN X106.here hx rfl (hb hby d4_31) rfl rfl k) ?_
      show Done p e below s _ _ _ (T106.setTop (mkF m 32 #[.val (.ref a1), .val (.ref a2), .val (.int (0 : Int32)), .val (.int (1 : Int32)), .val (.int (0 : Int32))] [(.ref a2), (.int v0)]))
      obtain ⟨T107, X107, e107, st107⟩ := getF X106 hx hZ hown (host := "") (Or.inl (hw _ (List.mem_of_getElem? (i := 28) rfl))) Via.refl e106 F2 (g := (mkF m 32 #[.val (.ref a1), .val (.ref a2), .val (.int (0 : Int32)), .val (.int (1 : Int32)), .val (.int (0 : Int32))] [(.ref a2), (.int v0)])) rfl rfl (hb hby d4_32)
      refine Done.step st107 ?_
      show Done p e below s _ _ _ (T107.setTop (mkF m 35 #[.val (.ref a1), .val (.ref a2), .val (.int (0 : Int32)), .val (.int (1 : Int32)), .val (.int (0 : Int32))] [(.int cc), (.int v0)]))
      by_cases c3 : cc < v0
      · refine Done.step (fun t k => XS.icmpYes X107.here hx rfl (pc0 := 35) (pc' := 46) rfl (hb hby d4_35) rfl (tlt c3).2.2.1 (by decide) (by decide) k) ?_
        show Done p e below s _ _ _ (T107.setTop (mkF m 46 #[.val (.ref a1), .val (.ref a2), .val (.int (0 : Int32)), .val (.int (1 : Int32)), .val (.int (0 : Int32))] []))
        refine Done.step (fun t k => XS.iload X107.here hx rfl (hb hby d4_46) rfl k) ?_
        show Done p e below s _ _ _ (T107.setTop (mkF m 48 #[.val (.ref a1), .val (.ref a2), .val (.int (0 : Int32)), .val (.int (1 : Int32)), .val (.int (0 : Int32))] [(.int (0 : Int32))]))
        refine Done.step (fun t k => XS.istoreN X107.here hx rfl (hb hby d4_48) rfl (l' := #[.val (.ref a1), .val (.ref a2), .val (.int (0 : Int32)), .val (.int (0 : Int32)), .val (.int (0 : Int32))]) rfl k) ?_
        show Done p e below s _ _ _ (T107.setTop (mkF m 49 #[.val (.ref a1), .val (.ref a2), .val (.int (0 : Int32)), .val (.int (0 : Int32)), .val (.int (0 : Int32))] []))
        refine Done.step (fun t k => XS.goto X107.here hx rfl (pc0 := 49) (pc' := 10) rfl (hb hby d4_49) (by decide) (by decide) k) ?_
        show Done p e below s _ _ _ (T107.setTop (mkF m 10 #[.val (.ref a1), .val (.ref a2), .val (.int (0 : Int32)), .val (.int (0 : Int32)), .val (.int (0 : Int32))] []))
        refine Done.step (fun t k => XS.iloadN X107.here hx rfl (hb hby d4_10) rfl k) ?_
        show Done p e below s _ _ _ (T107.setTop (mkF m 11 #[.val (.ref a1), .val (.ref a2), .val (.int (0 : Int32)), .val (.int (0 : Int32)), .val (.int (0 : Int32))] [(.int (0 : Int32))]))
        refine Done.step (fun t k => XS.iloadN X107.here hx rfl (hb hby d4_11) rfl k) ?_
        show Done p e below s _ _ _ (T107.setTop (mkF m 12 #[.val (.ref a1), .val (.ref a2), .val (.int (0 : Int32)), .val (.int (0 : Int32)), .val (.int (0 : Int32))] [(.int (0 : Int32)), (.int (0 : Int32))]))
        refine Done.step (fun t k => XS.icmpYes X107.here hx rfl (pc0 := 12) (pc' := 52) rfl (hb hby d4_12) rfl (flt (by decide)).2.1 (by decide) (by decide) k) ?_
        show Done p e below s _ _ _ (T107.setTop (mkF m 52 #[.val (.ref a1), .val (.ref a2), .val (.int (0 : Int32)), .val (.int (0 : Int32)), .val (.int (0 : Int32))] []))
        refine Done.step (fun t k => XS.iloadN X107.here hx rfl (hb hby d4_52) rfl k) ?_
        show Done p e below s _ _ _ (T107.setTop (mkF m 53 #[.val (.ref a1), .val (.ref a2), .val (.int (0 : Int32)), .val (.int (0 : Int32)), .val (.int (0 : Int32))] [(.int (0 : Int32))]))
        refine Done.step (fun t k => XS.ifYes X107.here hx rfl (pc0 := 53) (pc' := 77) rfl (hb hby d4_53) rfl ((if0 _ _).trans (flt (by decide)).2.2.2) (by decide) (by decide) k) ?_
        show Done p e below s _ _ _ (T107.setTop (mkF m 77 #[.val (.ref a1), .val (.ref a2), .val (.int (0 : Int32)), .val (.int (0 : Int32)), .val (.int (0 : Int32))] []))
        refine Done.step (fun t k => XS.iconst X107.here hx rfl (hb hby d4_77) k) ?_
        show Done p e below s _ _ _ (T107.setTop (mkF m 78 #[.val (.ref a1), .val (.ref a2), .val (.int (0 : Int32)), .val (.int (0 : Int32)), .val (.int (0 : Int32))] [(.int (0 : Int32))]))
        exact Done.narr X107 hx hlk hret (by simp) (hb hby d4_78) (by decide) (by decide) ⟨by rw [← he, show CV4 v0 v1 v2 v3 v4 v5 v6 v7 cc = (0 : Int32) from by unfold CV4; rw [if_pos c1, if_pos c2, if_pos c3]] <;> rfl, N0, e107⟩
      · refine Done.step (fun t k => XS.icmpNo X107.here hx rfl (hb hby d4_35) rfl (flt c3).2.2.1 k) ?_
        show Done p e below s _ _ _ (T107.setTop (mkF m 38 #[.val (.ref a1), .val (.ref a2), .val (.int (0 : Int32)), .val (.int (1 : Int32)), .val (.int (0 : Int32))] []))
        refine Done.step (fun t k => XS.iload X107.here hx rfl (hb hby d4_38) rfl k) ?_
        show Done p e below s _ _ _ (T107.setTop (mkF m 40 #[.val (.ref a1), .val (.ref a2), .val (.int (0 : Int32)), .val (.int (1 : Int32)), .val (.int (0 : Int32))] [(.int (0 : Int32))]))
        refine Done.step (fun t k => XS.iconst X107.here hx rfl (hb hby d4_40) k) ?_
        show Done p e below s _ _ _ (T107.setTop (mkF m 41 #[.val (.ref a1), .val (.ref a2), .val (.int (0 : Int32)), .val (.int (1 : Int32)), .val (.int (0 : Int32))] [(.int (1 : Int32)), (.int (0 : Int32))]))
        refine Done.step (fun t k => XS.iadd X107.here hx rfl (hb hby d4_41) rfl k) ?_
        show Done p e below s _ _ _ (T107.setTop (mkF m 42 #[.val (.ref a1), .val (.ref a2), .val (.int (0 : Int32)), .val (.int (1 : Int32)), .val (.int (0 : Int32))] [(.int ((0 : Int32) + (1 : Int32)))]))
        rw [show ((0 : Int32) + (1 : Int32)) = (1 : Int32) from by decide]
        show Done p e below s _ _ _ (T107.setTop (mkF m 42 #[.val (.ref a1), .val (.ref a2), .val (.int (0 : Int32)), .val (.int (1 : Int32)), .val (.int (0 : Int32))] [(.int (1 : Int32))]))
        refine Done.step (fun t k => XS.istoreN X107.here hx rfl (hb hby d4_42) rfl (l' := #[.val (.ref a1), .val (.ref a2), .val (.int (1 : Int32)), .val (.int (1 : Int32)), .val (.int (0 : Int32))]) rfl k) ?_
        show Done p e below s _ _ _ (T107.setTop (mkF m 43 #[.val (.ref a1), .val (.ref a2), .val (.int (1 : Int32)), .val (.int (1 : Int32)), .val (.int (0 : Int32))] []))
        refine Done.step (fun t k => XS.goto X107.here hx rfl (pc0 := 43) (pc' := 49) rfl (hb hby d4_43) (by decide) (by decide) k) ?_
        show Done p e below s _ _ _ (T107.setTop (mkF m 49 #[.val (.ref a1), .val (.ref a2), .val (.int (1 : Int32)), .val (.int (1 : Int32)), .val (.int (0 : Int32))] []))
        refine Done.step (fun t k => XS.goto X107.here hx rfl (pc0 := 49) (pc' := 10) rfl (hb hby d4_49) (by decide) (by decide) k) ?_
        show Done p e below s _ _ _ (T107.setTop (mkF m 10 #[.val (.ref a1), .val (.ref a2), .val (.int (1 : Int32)), .val (.int (1 : Int32)), .val (.int (0 : Int32))] []))
        refine Done.step (fun t k => XS.iloadN X107.here hx rfl (hb hby d4_10) rfl k) ?_
        show Done p e below s _ _ _ (T107.setTop (mkF m 11 #[.val (.ref a1), .val (.ref a2), .val (.int (1 : Int32)), .val (.int (1 : Int32)), .val (.int (0 : Int32))] [(.int (1 : Int32))]))
        refine Done.step (fun t k => XS.iloadN X107.here hx rfl (hb hby d4_11) rfl k) ?_
        show Done p e below s _ _ _ (T107.setTop (mkF m 12 #[.val (.ref a1), .val (.ref a2), .val (.int (1 : Int32)), .val (.int (1 : Int32)), .val (.int (0 : Int32))] [(.int (1 : Int32)), (.int (1 : Int32))]))
        refine Done.step (fun t k => XS.icmpYes X107.here hx rfl (pc0 := 12) (pc' := 52) rfl (hb hby d4_12) rfl (flt (by decide)).2.1 (by decide) (by decide) k) ?_
        show Done p e below s _ _ _ (T107.setTop (mkF m 52 #[.val (.ref a1), .val (.ref a2), .val (.int (1 : Int32)), .val (.int (1 : Int32)), .val (.int (0 : Int32))] []))
        refine Done.step (fun t k => XS.iloadN X107.here hx rfl (hb hby d4_52) rfl k) ?_
        show Done p e below s _ _ _ (T107.setTop (mkF m 53 #[.val (.ref a1), .val (.ref a2), .val (.int (1 : Int32)), .val (.int (1 : Int32)), .val (.int (0 : Int32))] [(.int (1 : Int32))]))
        refine Done.step (fun t k => XS.ifNo X107.here hx rfl (hb hby d4_53) rfl ((if0 _ _).trans (tlt (by decide)).2.2.2) k) ?_
        show Done p e below s _ _ _ (T107.setTop (mkF m 56 #[.val (.ref a1), .val (.ref a2), .val (.int (1 : Int32)), .val (.int (1 : Int32)), .val (.int (0 : Int32))] []))
        refine Done.step (fun t k => XS.aloadN X107.here hx rfl (hb hby d4_56) rfl rfl k) ?_
        show Done p e below s _ _ _ (T107.setTop (mkF m 57 #[.val (.ref a1), .val (.ref a2), .val (.int (1 : Int32)), .val (.int (1 : Int32)), .val (.int (0 : Int32))] [(.ref a2)]))
        obtain ⟨T108, X108, e108, st108⟩ := getF X107 hx hZ hown (host := "") (Or.inl (hw _ (List.mem_of_getElem? (i := 28) rfl))) Via.refl e107 F2 (g := (mkF m 57 #[.val (.ref a1), .val (.ref a2), .val (.int (1 : Int32)), .val (.int (1 : Int32)), .val (.int (0 : Int32))] [(.ref a2)])) rfl rfl (hb hby d4_57)
        refine Done.step st108 ?_
        show Done p e below s _ _ _ (T108.setTop (mkF m 60 #[.val (.ref a1), .val (.ref a2), .val (.int (1 : Int32)), .val (.int (1 : Int32)), .val (.int (0 : Int32))] [(.int cc)]))
        refine Done.step (fun t k => XS.aloadN X108.here hx rfl (hb hby d4_60) rfl rfl k) ?_
        show Done p e below s _ _ _ (T108.setTop (mkF m 61 #[.val (.ref a1), .val (.ref a2), .val (.int (1 : Int32)), .val (.int (1 : Int32)), .val (.int (0 : Int32))] [(.ref a1), (.int cc)]))
        obtain ⟨T109, X109, e109, st109⟩ := getF X108 hx hZ hown (host := "") (Or.inl (hw _ (List.mem_of_getElem? (i := 30) rfl))) Via.refl e108 F1 (g := (mkF m 61 #[.val (.ref a1), .val (.ref a2), .val (.int (1 : Int32)), .val (.int (1 : Int32)), .val (.int (0 : Int32))] [(.ref a1), (.int cc)])) rfl rfl (hb hby d4_61)
        refine Done.step st109 ?_
        show Done p e below s _ _ _ (T109.setTop (mkF m 64 #[.val (.ref a1), .val (.ref a2), .val (.int (1 : Int32)), .val (.int (1 : Int32)), .val (.int (0 : Int32))] [(.ref ar), (.int cc)]))
        refine Done.step (fun t k => XS.iconst X109.here hx rfl (hb hby d4_64) k) ?_
        show Done p e below s _ _ _ (T109.setTop (mkF m 65 #[.val (.ref a1), .val (.ref a2), .val (.int (1 : Int32)), .val (.int (1 : Int32)), .val (.int (0 : Int32))] [(.int (2 : Int32)), (.ref ar), (.int cc)]))
        refine Done.step (fun t k => XS.iloadN X109.here hx rfl (hb hby d4_65) rfl k) ?_
        show Done p e below s _ _ _ (T109.setTop (mkF m 66 #[.val (.ref a1), .val (.ref a2), .val (.int (1 : Int32)), .val (.int (1 : Int32)), .val (.int (0 : Int32))] [(.int (1 : Int32)), (.int (2 : Int32)), (.ref ar), (.int cc)]))
        refine Done.step (fun t k => XS.imul X109.here hx rfl (hb hby d4_66) rfl k) ?_
        show Done p e below s _ _ _ (T109.setTop (mkF m 67 #[.val (.ref a1), .val (.ref a2), .val (.int (1 : Int32)), .val (.int (1 : Int32)), .val (.int (0 : Int32))] [(.int ((2 : Int32) * (1 : Int32))), (.ref ar), (.int cc)]))
        rw [show ((2 : Int32) * (1 : Int32)) = (2 : Int32) from by decide]
        show Done p e below s _ _ _ (T109.setTop (mkF m 67 #[.val (.ref a1), .val (.ref a2), .val (.int (1 : Int32)), .val (.int (1 : Int32)), .val (.int (0 : Int32))] [(.int (2 : Int32)), (.ref ar), (.int cc)]))
        refine Done.step (fun t k => XS.iconst X109.here hx rfl (hb hby d4_67) k) ?_
        show Done p e below s _ _ _ (T109.setTop (mkF m 68 #[.val (.ref a1), .val (.ref a2), .val (.int (1 : Int32)), .val (.int (1 : Int32)), .val (.int (0 : Int32))] [(.int (1 : Int32)), (.int (2 : Int32)), (.ref ar), (.int cc)]))
        refine Done.step (fun t k => XS.isub X109.here hx rfl (hb hby d4_68) rfl k) ?_
        show Done p e below s _ _ _ (T109.setTop (mkF m 69 #[.val (.ref a1), .val (.ref a2), .val (.int (1 : Int32)), .val (.int (1 : Int32)), .val (.int (0 : Int32))] [(.int ((2 : Int32) - (1 : Int32))), (.ref ar), (.int cc)]))
        rw [show ((2 : Int32) - (1 : Int32)) = (1 : Int32) from by decide]
        show Done p e below s _ _ _ (T109.setTop (mkF m 69 #[.val (.ref a1), .val (.ref a2), .val (.int (1 : Int32)), .val (.int (1 : Int32)), .val (.int (0 : Int32))] [(.int (1 : Int32)), (.ref ar), (.int cc)]))
        refine Done.step (ldI X109 hx hZ e109 A1 (j := (1 : Int32)) (x := (.int v1)) (by decide) rfl (g := (mkF m 69 #[.val (.ref a1), .val (.ref a2), .val (.int (1 : Int32)), .val (.int (1 : Int32)), .val (.int (0 : Int32))] [(.int (1 : Int32)), (.ref ar), (.int cc)])) rfl rfl (hb hby d4_69)) ?_
        show Done p e below s _ _ _ (T109.setTop (mkF m 70 #[.val (.ref a1), .val (.ref a2), .val (.int (1 : Int32)), .val (.int (1 : Int32)), .val (.int (0 : Int32))] [(.int v1), (.int cc)]))
        by_cases c4 : cc < v1
        · refine Done.step (fun t k => XS.icmpNo X109.here hx rfl (hb hby d4_70) rfl (tlt c4).2.1 k) ?_
          show Done p e below s _ _ _ (T109.setTop (mkF m 73 #[.val (.ref a1), .val (.ref a2), .val (.int (1 : Int32)), .val (.int (1 : Int32)), .val (.int (0 : Int32))] []))
          refine Done.step (fun t k => XS.iconst X109.here hx rfl (hb hby d4_73) k) ?_
          show Done p e below s _ _ _ (T109.setTop (mkF m 74 #[.val (.ref a1), .val (.ref a2), .val (.int (1 : Int32)), .val (.int (1 : Int32)), .val (.int (0 : Int32))] [(.int (1 : Int32))]))
          refine Done.step (fun t k => XS.goto X109.here hx rfl (pc0 := 74) (pc' := 78) rfl (hb hby d4_74) (by decide) (by decide) k) ?_
          show Done p e below s _ _ _ (T109.setTop (mkF m 78 #[.val (.ref a1), .val (.ref a2), .val (.int (1 : Int32)), .val (.int (1 : Int32)), .val (.int (0 : Int32))] [(.int (1 : Int32))]))
          exact Done.narr X109 hx hlk hret (by simp) (hb hby d4_78) (by decide) (by decide) ⟨by rw [← he, show CV4 v0 v1 v2 v3 v4 v5 v6 v7 cc = (1 : Int32) from by unfold CV4; rw [if_pos c1, if_pos c2, if_neg c3, if_pos c4]] <;> rfl, N0, e109⟩
        · refine Done.step (fun t k => XS.icmpYes X109.here hx rfl (pc0 := 70) (pc' := 77) rfl (hb hby d4_70) rfl (flt c4).2.1 (by decide) (by decide) k) ?_
          show Done p e below s _ _ _ (T109.setTop (mkF m 77 #[.val (.ref a1), .val (.ref a2), .val (.int (1 : Int32)), .val (.int (1 : Int32)), .val (.int (0 : Int32))] []))
          refine Done.step (fun t k => XS.iconst X109.here hx rfl (hb hby d4_77) k) ?_
          show Done p e below s _ _ _ (T109.setTop (mkF m 78 #[.val (.ref a1), .val (.ref a2), .val (.int (1 : Int32)), .val (.int (1 : Int32)), .val (.int (0 : Int32))] [(.int (0 : Int32))]))
          exact Done.narr X109 hx hlk hret (by simp) (hb hby d4_78) (by decide) (by decide) ⟨by rw [← he, show CV4 v0 v1 v2 v3 v4 v5 v6 v7 cc = (0 : Int32) from by unfold CV4; rw [if_pos c1, if_pos c2, if_neg c3, if_neg c4]] <;> rfl, N0, e109⟩
    · refine Done.step (fun t k => XS.icmpNo X105.here hx rfl (hb hby d4_35) rfl (flt c2).2.2.1 k) ?_
      show Done p e below s _ _ _ (T105.setTop (mkF m 38 #[.val (.ref a1), .val (.ref a2), .val (.int (0 : Int32)), .val (.int (2 : Int32)), .val (.int (1 : Int32))] []))
      refine Done.step (fun t k => XS.iload X105.here hx rfl (hb hby d4_38) rfl k) ?_
      show Done p e below s _ _ _ (T105.setTop (mkF m 40 #[.val (.ref a1), .val (.ref a2), .val (.int (0 : Int32)), .val (.int (2 : Int32)), .val (.int (1 : Int32))] [(.int (1 : Int32))]))
      refine Done.step (fun t k => XS.iconst X105.here hx rfl (hb hby d4_40) k) ?_
      show Done p e below s _ _ _ (T105.setTop (mkF m 41 #[.val (.ref a1), .val (.ref a2), .val (.int (0 : Int32)), .val (.int (2 : Int32)), .val (.int (1 : Int32))] [(.int (1 : Int32)), (.int (1 : Int32))]))
      refine Done.step (fun t k => XS.iadd X105.here hx rfl (hb hby d4_41) rfl k) ?_
      show Done p e below s _ _ _ (T105.setTop (mkF m 42 #[.val (.ref a1), .val (.ref a2), .val (.int (0 : Int32)), .val (.int (2 : Int32)), .val (.int (1 : Int32))] [(.int ((1 : Int32) + (1 : Int32)))]))
      rw [show ((1 : Int32) + (1 : Int32)) = (2 : Int32) from by decide]
      show Done p e below s _ _ _ (T105.setTop (mkF m 42 #[.val (.ref a1), .val (.ref a2), .val (.int (0 : Int32)), .val (.int (2 : Int32)), .val (.int (1 : Int32))] [(.int (2 : Int32))]))
      refine Done.step (fun t k => XS.istoreN X105.here hx rfl (hb hby d4_42) rfl (l' := #[.val (.ref a1), .val (.ref a2), .val (.int (2 : Int32)), .val (.int (2 : Int32)), .val (.int (1 : Int32))]) rfl k) ?_
      show Done p e below s _ _ _ (T105.setTop (mkF m 43 #[.val (.ref a1), .val (.ref a2), .val (.int (2 : Int32)), .val (.int (2 : Int32)), .val (.int (1 : Int32))] []))
      refine Done.step (fun t k => XS.goto X105.here hx rfl (pc0 := 43) (pc' := 49) rfl (hb hby d4_43) (by decide) (by decide) k) ?_
      show Done p e below s _ _ _ (T105.setTop (mkF m 49 #[.val (.ref a1), .val (.ref a2), .val (.int (2 : Int32)), .val (.int (2 : Int32)), .val (.int (1 : Int32))] []))
      refine Done.step (fun t k => XS.goto X105.here hx rfl (pc0 := 49) (pc' := 10) rfl (hb hby d4_49) (by decide) (by decide) k) ?_
      show Done p e below s _ _ _ (T105.setTop (mkF m 10 #[.val (.ref a1), .val (.ref a2), .val (.int (2 : Int32)), .val (.int (2 : Int32)), .val (.int (1 : Int32))] []))
      refine Done.step (fun t k => XS.iloadN X105.here hx rfl (hb hby d4_10) rfl k) ?_
      show Done p e below s _ _ _ (T105.setTop (mkF m 11 #[.val (.ref a1), .val (.ref a2), .val (.int (2 : Int32)), .val (.int (2 : Int32)), .val (.int (1 : Int32))] [(.int (2 : Int32))]))
      refine Done.step (fun t k => XS.iloadN X105.here hx rfl (hb hby d4_11) rfl k) ?_
      show Done p e below s _ _ _ (T105.setTop (mkF m 12 #[.val (.ref a1), .val (.ref a2), .val (.int (2 : Int32)), .val (.int (2 : Int32)), .val (.int (1 : Int32))] [(.int (2 : Int32)), (.int (2 : Int32))]))
      refine Done.step (fun t k => XS.icmpYes X105.here hx rfl (pc0 := 12) (pc' := 52) rfl (hb hby d4_12) rfl (flt (by decide)).2.1 (by decide) (by decide) k) ?_
      show Done p e below s _ _ _ (T105.setTop (mkF m 52 #[.val (.ref a1), .val (.ref a2), .val (.int (2 : Int32)), .val (.int (2 : Int32)), .val (.int (1 : Int32))] []))
      refine Done.step (fun t k => XS.iloadN X105.here hx rfl (hb hby d4_52) rfl k) ?_
      show Done p e below s _ _ _ (T105.setTop (mkF m 53 #[.val (.ref a1), .val (.ref a2), .val (.int (2 : Int32)), .val (.int (2 : Int32)), .val (.int (1 : Int32))] [(.int (2 : Int32))]))
      refine Done.step (fun t k => XS.ifNo X105.here hx rfl (hb hby d4_53) rfl ((if0 _ _).trans (tlt (by decide)).2.2.2) k) ?_
      show Done p e below s _ _ _ (T105.setTop (mkF m 56 #[.val (.ref a1), .val (.ref a2), .val (.int (2 : Int32)), .val (.int (2 : Int32)), .val (.int (1 : Int32))] []))
      refine Done.step (fun t k => XS.aloadN X105.here hx rfl (hb hby d4_56) rfl rfl k) ?_
      show Done p e below s _ _ _ (T105.setTop (mkF m 57 #[.val (.ref a1), .val (.ref a2), .val (.int (2 : Int32)), .val (.int (2 : Int32)), .val (.int (1 : Int32))] [(.ref a2)]))
      obtain ⟨T110, X110, e110, st110⟩ := getF X105 hx hZ hown (host := "") (Or.inl (hw _ (List.mem_of_getElem? (i := 28) rfl))) Via.refl e105 F2 (g := (mkF m 57 #[.val (.ref a1), .val (.ref a2), .val (.int (2 : Int32)), .val (.int (2 : Int32)), .val (.int (1 : Int32))] [(.ref a2)])) rfl rfl (hb hby d4_57)
      refine Done.step st110 ?_
      show Done p e below s _ _ _ (T110.setTop (mkF m 60 #[.val (.ref a1), .val (.ref a2), .val (.int (2 : Int32)), .val (.int (2 : Int32)), .val (.int (1 : Int32))] [(.int cc)]))
      refine Done.step (fun t k => XS.aloadN X110.here hx rfl (hb hby d4_60) rfl rfl k) ?_
      show Done p e below s _ _ _ (T110.setTop (mkF m 61 #[.val (.ref a1), .val (.ref a2), .val (.int (2 : Int32)), .val (.int (2 : Int32)), .val (.int (1 : Int32))] [(.ref a1), (.int cc)]))
      obtain ⟨T111, X111, e111, st111⟩ := getF X110 hx hZ hown (host := "") (Or.inl (hw _ (List.mem_of_getElem? (i := 30) rfl))) Via.refl e110 F1 (g := (mkF m 61 #[.val (.ref a1), .val (.ref a2), .val (.int (2 : Int32)), .val (.int (2 : Int32)), .val (.int (1 : Int32))] [(.ref a1), (.int cc)])) rfl rfl (hb hby d4_61)
      refine Done.step st111 ?_
      show Done p e below s _ _ _ (T111.setTop (mkF m 64 #[.val (.ref a1), .val (.ref a2), .val (.int (2 : Int32)), .val (.int (2 : Int32)), .val (.int (1 : Int32))] [(.ref ar), (.int cc)]))
      refine Done.step (fun t k => XS.iconst X111.here hx rfl (hb hby d4_64) k) ?_
      show Done p e below s _ _ _ (T111.setTop (mkF m 65 #[.val (.ref a1), .val (.ref a2), .val (.int (2 : Int32)), .val (.int (2 : Int32)), .val (.int (1 : Int32))] [(.int (2 : Int32)), (.ref ar), (.int cc)]))
      refine Done.step (fun t k => XS.iloadN X111.here hx rfl (hb hby d4_65) rfl k) ?_
      show Done p e below s _ _ _ (T111.setTop (mkF m 66 #[.val (.ref a1), .val (.ref a2), .val (.int (2 : Int32)), .val (.int (2 : Int32)), .val (.int (1 : Int32))] [(.int (2 : Int32)), (.int (2 : Int32)), (.ref ar), (.int cc)]))
      refine Done.step (fun t k => XS.imul X111.here hx rfl (hb hby d4_66) rfl k) ?_
      show Done p e below s _ _ _ (T111.setTop (mkF m 67 #[.val (.ref a1), .val (.ref a2), .val (.int (2 : Int32)), .val (.int (2 : Int32)), .val (.int (1 : Int32))] [(.int ((2 : Int32) * (2 : Int32))), (.ref ar), (.int cc)]))
      rw [show ((2 : Int32) * (2 : Int32)) = (4 : Int32) from by decide]
      show Done p e below s _ _ _ (T111.setTop (mkF m 67 #[.val (.ref a1), .val (.ref a2), .val (.int (2 : Int32)), .val (.int (2 : Int32)), .val (.int (1 : Int32))] [(.int (4 : Int32)), (.ref ar), (.int cc)]))
      refine Done.step (fun t k => XS.iconst X111.here hx rfl (hb hby d4_67) k) ?_
      show Done p e below s _ _ _ (T111.setTop (mkF m 68 #[.val (.ref a1), .val (.ref a2), .val (.int (2 : Int32)), .val (.int (2 : Int32)), .val (.int (1 : Int32))] [(.int (1 : Int32)), (.int (4 : Int32)), (.ref ar), (.int cc)]))
      refine Done.step (fun t k => XS.isub X111.here hx rfl (hb hby d4_68) rfl k) ?_
      show Done p e below s _ _ _ (T111.setTop (mkF m 69 #[.val (.ref a1), .val (.ref a2), .val (.int (2 : Int32)), .val (.int (2 : Int32)), .val (.int (1 : Int32))] [(.int ((4 : Int32) - (1 : Int32))), (.ref ar), (.int cc)]))
      rw [show ((4 : Int32) - (1 : Int32)) = (3 : Int32) from by decide]
      show Done p e below s _ _ _ (T111.setTop (mkF m 69 #[.val (.ref a1), .val (.ref a2), .val (.int (2 : Int32)), .val (.int (2 : Int32)), .val (.int (1 : Int32))] [(.int (3 : Int32)), (.ref ar), (.int cc)]))
      refine Done.step (ldI X111 hx hZ e111 A1 (j := (3 : Int32)) (x := (.int v3)) (by decide) rfl (g := (mkF m 69 #[.val (.ref a1), .val (.ref a2), .val (.int (2 : Int32)), .val (.int (2 : Int32)), .val (.int (1 : Int32))] [(.int (3 : Int32)), (.ref ar), (.int cc)])) rfl rfl (hb hby d4_69)) ?_
      show Done p e below s _ _ _ (T111.setTop (mkF m 70 #[.val (.ref a1), .val (.ref a2), .val (.int (2 : Int32)), .val (.int (2 : Int32)), .val (.int (1 : Int32))] [(.int v3), (.int cc)]))
      by_cases c5 : cc < v3
      · refine Done.step (fun t k => XS.icmpNo X111.here hx rfl (hb hby d4_70) rfl (tlt c5).2.1 k) ?_
        show Done p e below s _ _ _ (T111.setTop (mkF m 73 #[.val (.ref a1), .val (.ref a2), .val (.int (2 : Int32)), .val (.int (2 : Int32)), .val (.int (1 : Int32))] []))
        refine Done.step (fun t k => XS.iconst X111.here hx rfl (hb hby d4_73) k) ?_
        show Done p e below s _ _ _ (T111.setTop (mkF m 74 #[.val (.ref a1), .val (.ref a2), .val (.int (2 : Int32)), .val (.int (2 : Int32)), .val (.int (1 : Int32))] [(.int (1 : Int32))]))
        refine Done.step (fun t k => XS.goto X111.here hx rfl (pc0 := 74) (pc' := 78) rfl (hb hby d4_74) (by decide) (by decide) k) ?_
        show Done p e below s _ _ _ (T111.setTop (mkF m 78 #[.val (.ref a1), .val (.ref a2), .val (.int (2 : Int32)), .val (.int (2 : Int32)), .val (.int (1 : Int32))] [(.int (1 : Int32))]))
        exact Done.narr X111 hx hlk hret (by simp) (hb hby d4_78) (by decide) (by decide) ⟨by rw [← he, show CV4 v0 v1 v2 v3 v4 v5 v6 v7 cc = (1 : Int32) from by unfold CV4; rw [if_pos c1, if_neg c2, if_pos c5]] <;> rfl, N0, e111⟩
      · refine Done.step (fun t k => XS.icmpYes X111.here hx rfl (pc0 := 70) (pc' := 77) rfl (hb hby d4_70) rfl (flt c5).2.1 (by decide) (by decide) k) ?_
        show Done p e below s _ _ _ (T111.setTop (mkF m 77 #[.val (.ref a1), .val (.ref a2), .val (.int (2 : Int32)), .val (.int (2 : Int32)), .val (.int (1 : Int32))] []))
        refine Done.step (fun t k => XS.iconst X111.here hx rfl (hb hby d4_77) k) ?_
        show Done p e below s _ _ _ (T111.setTop (mkF m 78 #[.val (.ref a1), .val (.ref a2), .val (.int (2 : Int32)), .val (.int (2 : Int32)), .val (.int (1 : Int32))] [(.int (0 : Int32))]))
        exact Done.narr X111 hx hlk hret (by simp) (hb hby d4_78) (by decide) (by decide) ⟨by rw [← he, show CV4 v0 v1 v2 v3 v4 v5 v6 v7 cc = (0 : Int32) from by unfold CV4; rw [if_pos c1, if_neg c2, if_neg c5]] <;> rfl, N0, e111⟩
  · refine Done.step (fun t k => XS.icmpNo X103.here hx rfl (hb hby d4_35) rfl (flt c1).2.2.1 k) ?_
    show Done p e below s _ _ _ (T103.setTop (mkF m 38 #[.val (.ref a1), .val (.ref a2), .val (.int (0 : Int32)), .val (.int (4 : Int32)), .val (.int (2 : Int32))] []))
    refine Done.step (fun t k => XS.iload X103.here hx rfl (hb hby d4_38) rfl k) ?_
    show Done p e below s _ _ _ (T103.setTop (mkF m 40 #[.val (.ref a1), .val (.ref a2), .val (.int (0 : Int32)), .val (.int (4 : Int32)), .val (.int (2 : Int32))] [(.int (2 : Int32))]))
    refine Done.step (fun t k => XS.iconst X103.here hx rfl (hb hby d4_40) k) ?_
    show Done p e below s _ _ _ (T103.setTop (mkF m 41 #[.val (.ref a1), .val (.ref a2), .val (.int (0 : Int32)), .val (.int (4 : Int32)), .val (.int (2 : Int32))] [(.int (1 : Int32)), (.int (2 : Int32))]))
    refine Done.step (fun t k => XS.iadd X103.here hx rfl (hb hby d4_41) rfl k) ?_
    show Done p e below s _ _ _ (T103.setTop (mkF m 42 #[.val (.ref a1), .val (.ref a2), .val (.int (0 : Int32)), .val (.int (4 : Int32)), .val (.int (2 : Int32))] [(.int ((2 : Int32) + (1 : Int32)))]))
    rw [show ((2 : Int32) + (1 : Int32)) = (3 : Int32) from by decide]
    show Done p e below s _ _ _ (T103.setTop (mkF m 42 #[.val (.ref a1), .val (.ref a2), .val (.int (0 : Int32)), .val (.int (4 : Int32)), .val (.int (2 : Int32))] [(.int (3 : Int32))]))
    refine Done.step (fun t k => XS.istoreN X103.here hx rfl (hb hby d4_42) rfl (l' := #[.val (.ref a1), .val (.ref a2), .val (.int (3 : Int32)), .val (.int (4 : Int32)), .val (.int (2 : Int32))]) rfl k) ?_
    show Done p e below s _ _ _ (T103.setTop (mkF m 43 #[.val (.ref a1), .val (.ref a2), .val (.int (3 : Int32)), .val (.int (4 : Int32)), .val (.int (2 : Int32))] []))
    refine Done.step (fun t k => XS.goto X103.here hx rfl (pc0 := 43) (pc' := 49) rfl (hb hby d4_43) (by decide) (by decide) k) ?_
    show Done p e below s _ _ _ (T103.setTop (mkF m 49 #[.val (.ref a1), .val (.ref a2), .val (.int (3 : Int32)), .val (.int (4 : Int32)), .val (.int (2 : Int32))] []))
    refine Done.step (fun t k => XS.goto X103.here hx rfl (pc0 := 49) (pc' := 10) rfl (hb hby d4_49) (by decide) (by decide) k) ?_
    show Done p e below s _ _ _ (T103.setTop (mkF m 10 #[.val (.ref a1), .val (.ref a2), .val (.int (3 : Int32)), .val (.int (4 : Int32)), .val (.int (2 : Int32))] []))
    refine Done.step (fun t k => XS.iloadN X103.here hx rfl (hb hby d4_10) rfl k) ?_
    show Done p e below s _ _ _ (T103.setTop (mkF m 11 #[.val (.ref a1), .val (.ref a2), .val (.int (3 : Int32)), .val (.int (4 : Int32)), .val (.int (2 : Int32))] [(.int (3 : Int32))]))
    refine Done.step (fun t k => XS.iloadN X103.here hx rfl (hb hby d4_11) rfl k) ?_
    show Done p e below s _ _ _ (T103.setTop (mkF m 12 #[.val (.ref a1), .val (.ref a2), .val (.int (3 : Int32)), .val (.int (4 : Int32)), .val (.int (2 : Int32))] [(.int (4 : Int32)), (.int (3 : Int32))]))
    refine Done.step (fun t k => XS.icmpNo X103.here hx rfl (hb hby d4_12) rfl (tlt (by decide)).2.1 k) ?_
    show Done p e below s _ _ _ (T103.setTop (mkF m 15 #[.val (.ref a1), .val (.ref a2), .val (.int (3 : Int32)), .val (.int (4 : Int32)), .val (.int (2 : Int32))] []))
    refine Done.step (fun t k => XS.iloadN X103.here hx rfl (hb hby d4_15) rfl k) ?_
    show Done p e below s _ _ _ (T103.setTop (mkF m 16 #[.val (.ref a1), .val (.ref a2), .val (.int (3 : Int32)), .val (.int (4 : Int32)), .val (.int (2 : Int32))] [(.int (3 : Int32))]))
    refine Done.step (fun t k => XS.iloadN X103.here hx rfl (hb hby d4_16) rfl k) ?_
    show Done p e below s _ _ _ (T103.setTop (mkF m 17 #[.val (.ref a1), .val (.ref a2), .val (.int (3 : Int32)), .val (.int (4 : Int32)), .val (.int (2 : Int32))] [(.int (4 : Int32)), (.int (3 : Int32))]))
    refine Done.step (fun t k => XS.iadd X103.here hx rfl (hb hby d4_17) rfl k) ?_
    show Done p e below s _ _ _ (T103.setTop (mkF m 18 #[.val (.ref a1), .val (.ref a2), .val (.int (3 : Int32)), .val (.int (4 : Int32)), .val (.int (2 : Int32))] [(.int ((3 : Int32) + (4 : Int32)))]))
    rw [show ((3 : Int32) + (4 : Int32)) = (7 : Int32) from by decide]
    show Done p e below s _ _ _ (T103.setTop (mkF m 18 #[.val (.ref a1), .val (.ref a2), .val (.int (3 : Int32)), .val (.int (4 : Int32)), .val (.int (2 : Int32))] [(.int (7 : Int32))]))
    refine Done.step (fun t k => XS.iconst X103.here hx rfl (hb hby d4_18) k) ?_
    show Done p e below s _ _ _ (T103.setTop (mkF m 19 #[.val (.ref a1), .val (.ref a2), .val (.int (3 : Int32)), .val (.int (4 : Int32)), .val (.int (2 : Int32))] [(.int (1 : Int32)), (.int (7 : Int32))]))
    refine Done.step (fun t k => XS.iushr X103.here hx rfl (hb hby d4_19) rfl k) ?_
    show Done p e below s _ _ _ (T103.setTop (mkF m 20 #[.val (.ref a1), .val (.ref a2), .val (.int (3 : Int32)), .val (.int (4 : Int32)), .val (.int (2 : Int32))] [(.int (((7 : Int32).toUInt32 >>> ((1 : Int32) &&& 31).toUInt32).toInt32))]))
    rw [show (((7 : Int32).toUInt32 >>> ((1 : Int32) &&& 31).toUInt32).toInt32) = (3 : Int32) from by decide]
    show Done p e below s _ _ _ (T103.setTop (mkF m 20 #[.val (.ref a1), .val (.ref a2), .val (.int (3 : Int32)), .val (.int (4 : Int32)), .val (.int (2 : Int32))] [(.int (3 : Int32))]))
    refine Done.step (fun t k => XS.istore X103.here hx rfl (hb hby d4_20) rfl (l' := #[.val (.ref a1), .val (.ref a2), .val (.int (3 : Int32)), .val (.int (4 : Int32)), .val (.int (3 : Int32))]) rfl k) ?_
    show Done p e below s _ _ _ (T103.setTop (mkF m 22 #[.val (.ref a1), .val (.ref a2), .val (.int (3 : Int32)), .val (.int (4 : Int32)), .val (.int (3 : Int32))] []))
    refine Done.step (fun t k => XS.aloadN X103.here hx rfl (hb hby d4_22) rfl rfl k) ?_
    show Done p e below s _ _ _ (T103.setTop (mkF m 23 #[.val (.ref a1), .val (.ref a2), .val (.int (3 : Int32)), .val (.int (4 : Int32)), .val (.int (3 : Int32))] [(.ref a1)]))
    obtain ⟨T112, X112, e112, st112⟩ := getF X103 hx hZ hown (host := "") (Or.inl (hw _ (List.mem_of_getElem? (i := 30) rfl))) Via.refl e103 F1 (g := (mkF m 23 #[.val (.ref a1), .val (.ref a2), .val (.int (3 : Int32)), .val (.int (4 : Int32)), .val (.int (3 : Int32))] [(.ref a1)])) rfl rfl (hb hby d4_23)
    refine Done.step st112 ?_
    show Done p e below s _ _ _ (T112.setTop (mkF m 26 #[.val (.ref a1), .val (.ref a2), .val (.int (3 : Int32)), .val (.int (4 : Int32)), .val (.int (3 : Int32))] [(.ref ar)]))
    refine Done.step (fun t k => XS.iconst X112.here hx rfl (hb hby d4_26) k) ?_
    show Done p e below s _ _ _ (T112.setTop (mkF m 27 #[.val (.ref a1), .val (.ref a2), .val (.int (3 : Int32)), .val (.int (4 : Int32)), .val (.int (3 : Int32))] [(.int (2 : Int32)), (.ref ar)]))
    refine Done.step (fun t k => XS.iload X112.here hx rfl (hb hby d4_27) rfl k) ?_
    show Done p e below s _ _ _ (T112.setTop (mkF m 29 #[.val (.ref a1), .val (.ref a2), .val (.int (3 : Int32)), .val (.int (4 : Int32)), .val (.int (3 : Int32))] [(.int (3 : Int32)), (.int (2 : Int32)), (.ref ar)]))
    refine Done.step (fun t k => XS.imul X112.here hx rfl (hb hby d4_29) rfl k) ?_
    show Done p e below s _ _ _ (T112.setTop (mkF m 30 #[.val (.ref a1), .val (.ref a2), .val (.int (3 : Int32)), .val (.int (4 : Int32)), .val (.int (3 : Int32))] [(.int ((2 : Int32) * (3 : Int32))), (.ref ar)]))
    rw [show ((2 : Int32) * (3 : Int32)) = (6 : Int32) from by decide]
    show Done p e below s _ _ _ (T112.setTop (mkF m 30 #[.val (.ref a1), .val (.ref a2), .val (.int (3 : Int32)), .val (.int (4 : Int32)), .val (.int (3 : Int32))] [(.int (6 : Int32)), (.ref ar)]))
    refine Done.step (ldI X112 hx hZ e112 A1 (j := (6 : Int32)) (x := (.int v6)) (by decide) rfl (g := (mkF m 30 #[.val (.ref a1), .val (.ref a2), .val (.int (3 : Int32)), .val (.int (4 : Int32)), .val (.int (3 : Int32))] [(.int (6 : Int32)), (.ref ar)])) rfl rfl (hb hby d4_30)) ?_
    show Done p e below s _ _ _ (T112.setTop (mkF m 31 #[.val (.ref a1), .val (.ref a2), .val (.int (3 : Int32)), .val (.int (4 : Int32)), .val (.int (3 : Int32))] [(.int v6)]))
    refine Done.step (fun t k => XS.aloadN X112.here hx rfl (hb hby d4_31) rfl rfl k) ?_
    show Done p e below s _ _ _ (T112.setTop (mkF m 32 #[.val (.ref a1), .val (.ref a2), .val (.int (3 : Int32)), .val (.int (4 : Int32)), .val (.int (3 : Int32))] [(.ref a2), (.int v6)]))
    obtain ⟨T113, X113, e113, st113⟩ := getF X112 hx hZ hown (host := "") (Or.inl (hw _ (List.mem_of_getElem? (i := 28) rfl))) Via.refl e112 F2 (g := (mkF m 32 #[.val (.ref a1), .val (.ref a2), .val (.int (3 : Int32)), .val (.int (4 : Int32)), .val (.int (3 : Int32))] [(.ref a2), (.int v6)])) rfl rfl (hb hby d4_32)
    refine Done.step st113 ?_
    show Done p e below s _ _ _ (T113.setTop (mkF m 35 #[.val (.ref a1), .val (.ref a2), .val (.int (3 : Int32)), .val (.int (4 : Int32)), .val (.int (3 : Int32))] [(.int cc), (.int v6)]))
    by_cases c6 : cc < v6
    · refine Done.step (fun t k => XS.icmpYes X113.here hx rfl (pc0 := 35) (pc' := 46) rfl (hb hby d4_35) rfl (tlt c6).2.2.1 (by decide) (by decide) k) ?_
      show Done p e below s _ _ _ (T113.setTop (mkF m 46 #[.val (.ref a1), .val (.ref a2), .val (.int (3 : Int32)), .val (.int (4 : Int32)), .val (.int (3 : Int32))] []))
      refine Done.step (fun t k => XS.iload X113.here hx rfl (hb hby d4_46) rfl k) ?_
      show Done p e below s _ _ _ (T113.setTop (mkF m 48 #[.val (.ref a1), .val (.ref a2), .val (.int (3 : Int32)), .val (.int (4 : Int32)), .val (.int (3 : Int32))] [(.int (3 : Int32))]))
      refine Done.step (fun t k => XS.istoreN X113.here hx rfl (hb hby d4_48) rfl (l' := #[.val (.ref a1), .val (.ref a2), .val (.int (3 : Int32)), .val (.int (3 : Int32)), .val (.int (3 : Int32))]) rfl k) ?_
      show Done p e below s _ _ _ (T113.setTop (mkF m 49 #[.val (.ref a1), .val (.ref a2), .val (.int (3 : Int32)), .val (.int (3 : Int32)), .val (.int (3 : Int32))] []))
      refine Done.step (fun t k => XS.goto X113.here hx rfl (pc0 := 49) (pc' := 10) rfl (hb hby d4_49) (by decide) (by decide) k) ?_
      show Done p e below s _ _ _ (T113.setTop (mkF m 10 #[.val (.ref a1), .val (.ref a2), .val (.int (3 : Int32)), .val (.int (3 : Int32)), .val (.int (3 : Int32))] []))
      refine Done.step (fun t k => XS.iloadN X113.here hx rfl (hb hby d4_10) rfl k) ?_
      show Done p e below s _ _ _ (T113.setTop (mkF m 11 #[.val (.ref a1), .val (.ref a2), .val (.int (3 : Int32)), .val (.int (3 : Int32)), .val (.int (3 : Int32))] [(.int (3 : Int32))]))
      refine Done.step (fun t k => XS.iloadN X113.here hx rfl (hb hby d4_11) rfl k) ?_
      show Done p e below s _ _ _ (T113.setTop (mkF m 12 #[.val (.ref a1), .val (.ref a2), .val (.int (3 : Int32)), .val (.int (3 : Int32)), .val (.int (3 : Int32))] [(.int (3 : Int32)), (.int (3 : Int32))]))
      refine Done.step (fun t k => XS.icmpYes X113.here hx rfl (pc0 := 12) (pc' := 52) rfl (hb hby d4_12) rfl (flt (by decide)).2.1 (by decide) (by decide) k) ?_
      show Done p e below s _ _ _ (T113.setTop (mkF m 52 #[.val (.ref a1), .val (.ref a2), .val (.int (3 : Int32)), .val (.int (3 : Int32)), .val (.int (3 : Int32))] []))
      refine Done.step (fun t k => XS.iloadN X113.here hx rfl (hb hby d4_52) rfl k) ?_
      show Done p e below s _ _ _ (T113.setTop (mkF m 53 #[.val (.ref a1), .val (.ref a2), .val (.int (3 : Int32)), .val (.int (3 : Int32)), .val (.int (3 : Int32))] [(.int (3 : Int32))]))
      refine Done.step (fun t k => XS.ifNo X113.here hx rfl (hb hby d4_53) rfl ((if0 _ _).trans (tlt (by decide)).2.2.2) k) ?_
      show Done p e below s _ _ _ (T113.setTop (mkF m 56 #[.val (.ref a1), .val (.ref a2), .val (.int (3 : Int32)), .val (.int (3 : Int32)), .val (.int (3 : Int32))] []))
      refine Done.step (fun t k => XS.aloadN X113.here hx rfl (hb hby d4_56) rfl rfl k) ?_
      show Done p e below s _ _ _ (T113.setTop (mkF m 57 #[.val (.ref a1), .val (.ref a2), .val (.int (3 : Int32)), .val (.int (3 : Int32)), .val (.int (3 : Int32))] [(.ref a2)]))
      obtain ⟨T114, X114, e114, st114⟩ := getF X113 hx hZ hown (host := "") (Or.inl (hw _ (List.mem_of_getElem? (i := 28) rfl))) Via.refl e113 F2 (g := (mkF m 57 #[.val (.ref a1), .val (.ref a2), .val (.int (3 : Int32)), .val (.int (3 : Int32)), .val (.int (3 : Int32))] [(.ref a2)])) rfl rfl (hb hby d4_57)
      refine Done.step st114 ?_
      show Done p e below s _ _ _ (T114.setTop (mkF m 60 #[.val (.ref a1), .val (.ref a2), .val (.int (3 : Int32)), .val (.int (3 : Int32)), .val (.int (3 : Int32))] [(.int cc)]))
      refine Done.step (fun t k => XS.aloadN X114.here hx rfl (hb hby d4_60) rfl rfl k) ?_
      show Done p e below s _ _ _ (T114.setTop (mkF m 61 #[.val (.ref a1), .val (.ref a2), .val (.int (3 : Int32)), .val (.int (3 : Int32)), .val (.int (3 : Int32))] [(.ref a1), (.int cc)]))
      obtain ⟨T115, X115, e115, st115⟩ := getF X114 hx hZ hown (host := "") (Or.inl (hw _ (List.mem_of_getElem? (i := 30) rfl))) Via.refl e114 F1 (g := (mkF m 61 #[.val (.ref a1), .val (.ref a2), .val (.int (3 : Int32)), .val (.int (3 : Int32)), .val (.int (3 : Int32))] [(.ref a1), (.int cc)])) rfl rfl (hb hby d4_61)
      refine Done.step st115 ?_
      show Done p e below s _ _ _ (T115.setTop (mkF m 64 #[.val (.ref a1), .val (.ref a2), .val (.int (3 : Int32)), .val (.int (3 : Int32)), .val (.int (3 : Int32))] [(.ref ar), (.int cc)]))
      refine Done.step (fun t k => XS.iconst X115.here hx rfl (hb hby d4_64) k) ?_
      show Done p e below s _ _ _ (T115.setTop (mkF m 65 #[.val (.ref a1), .val (.ref a2), .val (.int (3 : Int32)), .val (.int (3 : Int32)), .val (.int (3 : Int32))] [(.int (2 : Int32)), (.ref ar), (.int cc)]))
      refine Done.step (fun t k => XS.iloadN X115.here hx rfl (hb hby d4_65) rfl k) ?_
      show Done p e below s _ _ _ (T115.setTop (mkF m 66 #[.val (.ref a1), .val (.ref a2), .val (.int (3 : Int32)), .val (.int (3 : Int32)), .val (.int (3 : Int32))] [(.int (3 : Int32)), (.int (2 : Int32)), (.ref ar), (.int cc)]))
      refine Done.step (fun t k => XS.imul X115.here hx rfl (hb hby d4_66) rfl k) ?_
      show Done p e below s _ _ _ (T115.setTop (mkF m 67 #[.val (.ref a1), .val (.ref a2), .val (.int (3 : Int32)), .val (.int (3 : Int32)), .val (.int (3 : Int32))] [(.int ((2 : Int32) * (3 : Int32))), (.ref ar), (.int cc)]))
      rw [show ((2 : Int32) * (3 : Int32)) = (6 : Int32) from by decide]
      show Done p e below s _ _ _ (T115.setTop (mkF m 67 #[.val (.ref a1), .val (.ref a2), .val (.int (3 : Int32)), .val (.int (3 : Int32)), .val (.int (3 : Int32))] [(.int (6 : Int32)), (.ref ar), (.int cc)]))
      refine Done.step (fun t k => XS.iconst X115.here hx rfl (hb hby d4_67) k) ?_
      show Done p e below s _ _ _ (T115.setTop (mkF m 68 #[.val (.ref a1), .val (.ref a2), .val (.int (3 : Int32)), .val (.int (3 : Int32)), .val (.int (3 : Int32))] [(.int (1 : Int32)), (.int (6 : Int32)), (.ref ar), (.int cc)]))
      refine Done.step (fun t k => XS.isub X115.here hx rfl (hb hby d4_68) rfl k) ?_
      show Done p e below s _ _ _ (T115.setTop (mkF m 69 #[.val (.ref a1), .val (.ref a2), .val (.int (3 : Int32)), .val (.int (3 : Int32)), .val (.int (3 : Int32))] [(.int ((6 : Int32) - (1 : Int32))), (.ref ar), (.int cc)]))
      rw [show ((6 : Int32) - (1 : Int32)) = (5 : Int32) from by decide]
      show Done p e below s _ _ _ (T115.setTop (mkF m 69 #[.val (.ref a1), .val (.ref a2), .val (.int (3 : Int32)), .val (.int (3 : Int32)), .val (.int (3 : Int32))] [(.int (5 : Int32)), (.ref ar), (.int cc)]))
      refine Done.step (ldI X115 hx hZ e115 A1 (j := (5 : Int32)) (x := (.int v5)) (by decide) rfl (g := (mkF m 69 #[.val (.ref a1), .val (.ref a2), .val (.int (3 : Int32)), .val (.int (3 : Int32)), .val (.int (3 : Int32))] [(.int (5 : Int32)), (.ref ar), (.int cc)])) rfl rfl (hb hby d4_69)) ?_
      show Done p e below s _ _ _ (T115.setTop (mkF m 70 #[.val (.ref a1), .val (.ref a2), .val (.int (3 : Int32)), .val (.int (3 : Int32)), .val (.int (3 : Int32))] [(.int v5), (.int cc)]))
      by_cases c7 : cc < v5
      · refine Done.step (fun t k => XS.icmpNo X115.here hx rfl (hb hby d4_70) rfl (tlt c7).2.1 k) ?_
        show Done p e below s _ _ _ (T115.setTop (mkF m 73 #[.val (.ref a1), .val (.ref a2), .val (.int (3 : Int32)), .val (.int (3 : Int32)), .val (.int (3 : Int32))] []))
        refine Done.step (fun t k => XS.iconst X115.here hx rfl (hb hby d4_73) k) ?_
        show Done p e below s _ _ _ (T115.setTop (mkF m 74 #[.val (.ref a1), .val (.ref a2), .val (.int (3 : Int32)), .val (.int (3 : Int32)), .val (.int (3 : Int32))] [(.int (1 : Int32))]))
        refine Done.step (fun t k => XS.goto X115.here hx rfl (pc0 := 74) (pc' := 78) rfl (hb hby d4_74) (by decide) (by decide) k) ?_
        show Done p e below s _ _ _ (T115.setTop (mkF m 78 #[.val (.ref a1), .val (.ref a2), .val (.int (3 : Int32)), .val (.int (3 : Int32)), .val (.int (3 : Int32))] [(.int (1 : Int32))]))
        exact Done.narr X115 hx hlk hret (by simp) (hb hby d4_78) (by decide) (by decide) ⟨by rw [← he, show CV4 v0 v1 v2 v3 v4 v5 v6 v7 cc = (1 : Int32) from by unfold CV4; rw [if_neg c1, if_pos c6, if_pos c7]] <;> rfl, N0, e115⟩
      · refine Done.step (fun t k => XS.icmpYes X115.here hx rfl (pc0 := 70) (pc' := 77) rfl (hb hby d4_70) rfl (flt c7).2.1 (by decide) (by decide) k) ?_
        show Done p e below s _ _ _ (T115.setTop (mkF m 77 #[.val (.ref a1), .val (.ref a2), .val (.int (3 : Int32)), .val (.int (3 : Int32)), .val (.int (3 : Int32))] []))
        refine Done.step (fun t k => XS.iconst X115.here hx rfl (hb hby d4_77) k) ?_
        show Done p e below s _ _ _ (T115.setTop (mkF m 78 #[.val (.ref a1), .val (.ref a2), .val (.int (3 : Int32)), .val (.int (3 : Int32)), .val (.int (3 : Int32))] [(.int (0 : Int32))]))
        exact Done.narr X115 hx hlk hret (by simp) (hb hby d4_78) (by decide) (by decide) ⟨by rw [← he, show CV4 v0 v1 v2 v3 v4 v5 v6 v7 cc = (0 : Int32) from by unfold CV4; rw [if_neg c1, if_pos c6, if_neg c7]] <;> rfl, N0, e115⟩
    · refine Done.step (fun t k => XS.icmpNo X113.here hx rfl (hb hby d4_35) rfl (flt c6).2.2.1 k) ?_
      show Done p e below s _ _ _ (T113.setTop (mkF m 38 #[.val (.ref a1), .val (.ref a2), .val (.int (3 : Int32)), .val (.int (4 : Int32)), .val (.int (3 : Int32))] []))
      refine Done.step (fun t k => XS.iload X113.here hx rfl (hb hby d4_38) rfl k) ?_
      show Done p e below s _ _ _ (T113.setTop (mkF m 40 #[.val (.ref a1), .val (.ref a2), .val (.int (3 : Int32)), .val (.int (4 : Int32)), .val (.int (3 : Int32))] [(.int (3 : Int32))]))
      refine Done.step (fun t k => XS.iconst X113.here hx rfl (hb hby d4_40) k) ?_
      show Done p e below s _ _ _ (T113.setTop (mkF m 41 #[.val (.ref a1), .val (.ref a2), .val (.int (3 : Int32)), .val (.int (4 : Int32)), .val (.int (3 : Int32))] [(.int (1 : Int32)), (.int (3 : Int32))]))
      refine Done.step (fun t k => XS.iadd X113.here hx rfl (hb hby d4_41) rfl k) ?_
      show Done p e below s _ _ _ (T113.setTop (mkF m 42 #[.val (.ref a1), .val (.ref a2), .val (.int (3 : Int32)), .val (.int (4 : Int32)), .val (.int (3 : Int32))] [(.int ((3 : Int32) + (1 : Int32)))]))
      rw [show ((3 : Int32) + (1 : Int32)) = (4 : Int32) from by decide]
      show Done p e below s _ _ _ (T113.setTop (mkF m 42 #[.val (.ref a1), .val (.ref a2), .val (.int (3 : Int32)), .val (.int (4 : Int32)), .val (.int (3 : Int32))] [(.int (4 : Int32))]))
      refine Done.step (fun t k => XS.istoreN X113.here hx rfl (hb hby d4_42) rfl (l' := #[.val (.ref a1), .val (.ref a2), .val (.int (4 : Int32)), .val (.int (4 : Int32)), .val (.int (3 : Int32))]) rfl k) ?_
      show Done p e below s _ _ _ (T113.setTop (mkF m 43 #[.val (.ref a1), .val (.ref a2), .val (.int (4 : Int32)), .val (.int (4 : Int32)), .val (.int (3 : Int32))] []))
      refine Done.step (fun t k => XS.goto X113.here hx rfl (pc0 := 43) (pc' := 49) rfl (hb hby d4_43) (by decide) (by decide) k) ?_
      show Done p e below s _ _ _ (T113.setTop (mkF m 49 #[.val (.ref a1), .val (.ref a2), .val (.int (4 : Int32)), .val (.int (4 : Int32)), .val (.int (3 : Int32))] []))
      refine Done.step (fun t k => XS.goto X113.here hx rfl (pc0 := 49) (pc' := 10) rfl (hb hby d4_49) (by decide) (by decide) k) ?_
      show Done p e below s _ _ _ (T113.setTop (mkF m 10 #[.val (.ref a1), .val (.ref a2), .val (.int (4 : Int32)), .val (.int (4 : Int32)), .val (.int (3 : Int32))] []))
      refine Done.step (fun t k => XS.iloadN X113.here hx rfl (hb hby d4_10) rfl k) ?_
      show Done p e below s _ _ _ (T113.setTop (mkF m 11 #[.val (.ref a1), .val (.ref a2), .val (.int (4 : Int32)), .val (.int (4 : Int32)), .val (.int (3 : Int32))] [(.int (4 : Int32))]))
      refine Done.step (fun t k => XS.iloadN X113.here hx rfl (hb hby d4_11) rfl k) ?_
      show Done p e below s _ _ _ (T113.setTop (mkF m 12 #[.val (.ref a1), .val (.ref a2), .val (.int (4 : Int32)), .val (.int (4 : Int32)), .val (.int (3 : Int32))] [(.int (4 : Int32)), (.int (4 : Int32))]))
      refine Done.step (fun t k => XS.icmpYes X113.here hx rfl (pc0 := 12) (pc' := 52) rfl (hb hby d4_12) rfl (flt (by decide)).2.1 (by decide) (by decide) k) ?_
      show Done p e below s _ _ _ (T113.setTop (mkF m 52 #[.val (.ref a1), .val (.ref a2), .val (.int (4 : Int32)), .val (.int (4 : Int32)), .val (.int (3 : Int32))] []))
      refine Done.step (fun t k => XS.iloadN X113.here hx rfl (hb hby d4_52) rfl k) ?_
      show Done p e below s _ _ _ (T113.setTop (mkF m 53 #[.val (.ref a1), .val (.ref a2), .val (.int (4 : Int32)), .val (.int (4 : Int32)), .val (.int (3 : Int32))] [(.int (4 : Int32))]))
      refine Done.step (fun t k => XS.ifNo X113.here hx rfl (hb hby d4_53) rfl ((if0 _ _).trans (tlt (by decide)).2.2.2) k) ?_
      show Done p e below s _ _ _ (T113.setTop (mkF m 56 #[.val (.ref a1), .val (.ref a2), .val (.int (4 : Int32)), .val (.int (4 : Int32)), .val (.int (3 : Int32))] []))
      refine Done.step (fun t k => XS.aloadN X113.here hx rfl (hb hby d4_56) rfl rfl k) ?_
      show Done p e below s _ _ _ (T113.setTop (mkF m 57 #[.val (.ref a1), .val (.ref a2), .val (.int (4 : Int32)), .val (.int (4 : Int32)), .val (.int (3 : Int32))] [(.ref a2)]))
      obtain ⟨T116, X116, e116, st116⟩ := getF X113 hx hZ hown (host := "") (Or.inl (hw _ (List.mem_of_getElem? (i := 28) rfl))) Via.refl e113 F2 (g := (mkF m 57 #[.val (.ref a1), .val (.ref a2), .val (.int (4 : Int32)), .val (.int (4 : Int32)), .val (.int (3 : Int32))] [(.ref a2)])) rfl rfl (hb hby d4_57)
      refine Done.step st116 ?_
      show Done p e below s _ _ _ (T116.setTop (mkF m 60 #[.val (.ref a1), .val (.ref a2), .val (.int (4 : Int32)), .val (.int (4 : Int32)), .val (.int (3 : Int32))] [(.int cc)]))
      refine Done.step (fun t k => XS.aloadN X116.here hx rfl (hb hby d4_60) rfl rfl k) ?_
      show Done p e below s _ _ _ (T116.setTop (mkF m 61 #[.val (.ref a1), .val (.ref a2), .val (.int (4 : Int32)), .val (.int (4 : Int32)), .val (.int (3 : Int32))] [(.ref a1), (.int cc)]))
      obtain ⟨T117, X117, e117, st117⟩ := getF X116 hx hZ hown (host := "") (Or.inl (hw _ (List.mem_of_getElem? (i := 30) rfl))) Via.refl e116 F1 (g := (mkF m 61 #[.val (.ref a1), .val (.ref a2), .val (.int (4 : Int32)), .val (.int (4 : Int32)), .val (.int (3 : Int32))] [(.ref a1), (.int cc)])) rfl rfl (hb hby d4_61)
      refine Done.step st117 ?_
      show Done p e below s _ _ _ (T117.setTop (mkF m 64 #[.val (.ref a1), .val (.ref a2), .val (.int (4 : Int32)), .val (.int (4 : Int32)), .val (.int (3 : Int32))] [(.ref ar), (.int cc)]))
      refine Done.step (fun t k => XS.iconst X117.here hx rfl (hb hby d4_64) k) ?_
      show Done p e below s _ _ _ (T117.setTop (mkF m 65 #[.val (.ref a1), .val (.ref a2), .val (.int (4 : Int32)), .val (.int (4 : Int32)), .val (.int (3 : Int32))] [(.int (2 : Int32)), (.ref ar), (.int cc)]))
      refine Done.step (fun t k => XS.iloadN X117.here hx rfl (hb hby d4_65) rfl k) ?_
      show Done p e below s _ _ _ (T117.setTop (mkF m 66 #[.val (.ref a1), .val (.ref a2), .val (.int (4 : Int32)), .val (.int (4 : Int32)), .val (.int (3 : Int32))] [(.int (4 : Int32)), (.int (2 : Int32)), (.ref ar), (.int cc)]))
      refine Done.step (fun t k => XS.imul X117.here hx rfl (hb hby d4_66) rfl k) ?_
      show Done p e below s _ _ _ (T117.setTop (mkF m 67 #[.val (.ref a1), .val (.ref a2), .val (.int (4 : Int32)), .val (.int (4 : Int32)), .val (.int (3 : Int32))] [(.int ((2 : Int32) * (4 : Int32))), (.ref ar), (.int cc)]))
      rw [show ((2 : Int32) * (4 : Int32)) = (8 : Int32) from by decide]
      show Done p e below s _ _ _ (T117.setTop (mkF m 67 #[.val (.ref a1), .val (.ref a2), .val (.int (4 : Int32)), .val (.int (4 : Int32)), .val (.int (3 : Int32))] [(.int (8 : Int32)), (.ref ar), (.int cc)]))
      refine Done.step (fun t k => XS.iconst X117.here hx rfl (hb hby d4_67) k) ?_
      show Done p e below s _ _ _ (T117.setTop (mkF m 68 #[.val (.ref a1), .val (.ref a2), .val (.int (4 : Int32)), .val (.int (4 : Int32)), .val (.int (3 : Int32))] [(.int (1 : Int32)), (.int (8 : Int32)), (.ref ar), (.int cc)]))
      refine Done.step (fun t k => XS.isub X117.here hx rfl (hb hby d4_68) rfl k) ?_
      show Done p e below s _ _ _ (T117.setTop (mkF m 69 #[.val (.ref a1), .val (.ref a2), .val (.int (4 : Int32)), .val (.int (4 : Int32)), .val (.int (3 : Int32))] [(.int ((8 : Int32) - (1 : Int32))), (.ref ar), (.int cc)]))
      rw [show ((8 : Int32) - (1 : Int32)) = (7 : Int32) from by decide]
      show Done p e below s _ _ _ (T117.setTop (mkF m 69 #[.val (.ref a1), .val (.ref a2), .val (.int (4 : Int32)), .val (.int (4 : Int32)), .val (.int (3 : Int32))] [(.int (7 : Int32)), (.ref ar), (.int cc)]))
      refine Done.step (ldI X117 hx hZ e117 A1 (j := (7 : Int32)) (x := (.int v7)) (by decide) rfl (g := (mkF m 69 #[.val (.ref a1), .val (.ref a2), .val (.int (4 : Int32)), .val (.int (4 : Int32)), .val (.int (3 : Int32))] [(.int (7 : Int32)), (.ref ar), (.int cc)])) rfl rfl (hb hby d4_69)) ?_
      show Done p e below s _ _ _ (T117.setTop (mkF m 70 #[.val (.ref a1), .val (.ref a2), .val (.int (4 : Int32)), .val (.int (4 : Int32)), .val (.int (3 : Int32))] [(.int v7), (.int cc)]))
      by_cases c8 : cc < v7
      · refine Done.step (fun t k => XS.icmpNo X117.here hx rfl (hb hby d4_70) rfl (tlt c8).2.1 k) ?_
        show Done p e below s _ _ _ (T117.setTop (mkF m 73 #[.val (.ref a1), .val (.ref a2), .val (.int (4 : Int32)), .val (.int (4 : Int32)), .val (.int (3 : Int32))] []))
        refine Done.step (fun t k => XS.iconst X117.here hx rfl (hb hby d4_73) k) ?_
        show Done p e below s _ _ _ (T117.setTop (mkF m 74 #[.val (.ref a1), .val (.ref a2), .val (.int (4 : Int32)), .val (.int (4 : Int32)), .val (.int (3 : Int32))] [(.int (1 : Int32))]))
        refine Done.step (fun t k => XS.goto X117.here hx rfl (pc0 := 74) (pc' := 78) rfl (hb hby d4_74) (by decide) (by decide) k) ?_
        show Done p e below s _ _ _ (T117.setTop (mkF m 78 #[.val (.ref a1), .val (.ref a2), .val (.int (4 : Int32)), .val (.int (4 : Int32)), .val (.int (3 : Int32))] [(.int (1 : Int32))]))
        exact Done.narr X117 hx hlk hret (by simp) (hb hby d4_78) (by decide) (by decide) ⟨by rw [← he, show CV4 v0 v1 v2 v3 v4 v5 v6 v7 cc = (1 : Int32) from by unfold CV4; rw [if_neg c1, if_neg c6, if_pos c8]] <;> rfl, N0, e117⟩
      · refine Done.step (fun t k => XS.icmpYes X117.here hx rfl (pc0 := 70) (pc' := 77) rfl (hb hby d4_70) rfl (flt c8).2.1 (by decide) (by decide) k) ?_
        show Done p e below s _ _ _ (T117.setTop (mkF m 77 #[.val (.ref a1), .val (.ref a2), .val (.int (4 : Int32)), .val (.int (4 : Int32)), .val (.int (3 : Int32))] []))
        refine Done.step (fun t k => XS.iconst X117.here hx rfl (hb hby d4_77) k) ?_
        show Done p e below s _ _ _ (T117.setTop (mkF m 78 #[.val (.ref a1), .val (.ref a2), .val (.int (4 : Int32)), .val (.int (4 : Int32)), .val (.int (3 : Int32))] [(.int (0 : Int32))]))
        exact Done.narr X117 hx hlk hret (by simp) (hb hby d4_78) (by decide) (by decide) ⟨by rw [← he, show CV4 v0 v1 v2 v3 v4 v5 v6 v7 cc = (0 : Int32) from by unfold CV4; rw [if_neg c1, if_neg c6, if_neg c8]] <;> rfl, N0, e117⟩
def CovOK (vs : List Value) (cc ee : Int32) : Prop := (vs = [] ∧ CV0 cc = ee) ∨ (∃ v0 v1 : Int32, vs = [(.int v0), (.int v1)] ∧ CV1 v0 v1 cc = ee) ∨ (∃ v0 v1 v2 v3 : Int32, vs = [(.int v0), (.int v1), (.int v2), (.int v3)] ∧ CV2 v0 v1 v2 v3 cc = ee) ∨ (∃ v0 v1 v2 v3 v4 v5 : Int32, vs = [(.int v0), (.int v1), (.int v2), (.int v3), (.int v4), (.int v5)] ∧ CV3 v0 v1 v2 v3 v4 v5 cc = ee) ∨ (∃ v0 v1 v2 v3 v4 v5 v6 v7 : Int32, vs = [(.int v0), (.int v1), (.int v2), (.int v3), (.int v4), (.int v5), (.int v6), (.int v7)] ∧ CV4 v0 v1 v2 v3 v4 v5 v6 v7 cc = ee)
def QrmC (Z : State) (a1 : Addr) (a2 : Addr) (ar : Addr) (vs : List Value) (cc ee : Int32) (h0 : Heap) (n0 : Nat) : Option Value → Heap → List Loc → Prop := fun v h L => v = some (.int ee) ∧ Fr n0 L ∧ h = h0
set_option maxRecDepth 65536 in
set_option maxHeartbeats 40000000 in
theorem rmC (l : Launch) (Z : State) (a0 : Array Value) (hw : ∀ d ∈ tables_1, d.before a0 Z = true) (ws : List Jvm.Cond) (a1 : Addr) (a2 : Addr) (ar : Addr) (vs : List Value) (cc ee : Int32) (h0 : Heap) (n0 : Nat) (Z0 : n0 ≤ h0.size) (F1 : Fld Z h0 a1 "com/example/ruled_ledger/ruledledger/model/CatchHandler" "ranges" "[I" (.ref ar)) (A1 : Ax Z h0 ar .int vs) (F2 : Fld Z h0 a2 "com/example/ruled_ledger/ruledledger/model/CatchHandler" "codeStart" "I" (.int cc)) (hv : CovOK vs cc ee) :
    MetFree l (⟨"com/example/ruled_ledger/ruledledger/model/CatchHandler", "coversCodeOf", "(Lcom/example/ruled_ledger/ruledledger/model/CatchHandler;)Z"⟩ : MethodName) (head1 (Jvm.Cond.code (⟨"com/example/ruled_ledger/ruledledger/model/CatchHandler", "coversCodeOf", "(Lcom/example/ruled_ledger/ruledledger/model/CatchHandler;)Z"⟩ : MethodName) prog_13_method_4_code 5 (some .boolean) :: ws) ({ frames := 0, cells := 0, slots := 0, locals := 0 } : Room)) (fun a U => a = #[(.ref a1), (.ref a2)] ∧ Z.Warmed39 U.vm ∧ U.heap = h0) (fun _ _ _ _ _ => True) (fun _ U o U' => ∃ v L, o = .returned v ∧ QrmC Z a1 a2 ar vs cc ee h0 n0 v U'.heap L ∧ FrameEnd U o U' L ({ frames := 0, cells := 0, slots := 0, locals := 0 } : Room).cells ({ frames := 0, cells := 0, slots := 0, locals := 0 } : Room).slots) := by
  rcases hv with ⟨rfl, he⟩ | ⟨v0, v1, rfl, he⟩ | ⟨v0, v1, v2, v3, rfl, he⟩ | ⟨v0, v1, v2, v3, v4, v5, rfl, he⟩ | ⟨v0, v1, v2, v3, v4, v5, v6, v7, rfl, he⟩
  · exact rmc0 l Z a0 hw ws a1 a2 ar cc ee h0 n0 Z0 F1 A1 F2 he
  · exact rmc1 l Z a0 hw ws a1 a2 ar v0 v1 cc ee h0 n0 Z0 F1 A1 F2 he
  · exact rmc2 l Z a0 hw ws a1 a2 ar v0 v1 v2 v3 cc ee h0 n0 Z0 F1 A1 F2 he
  · exact rmc3 l Z a0 hw ws a1 a2 ar v0 v1 v2 v3 v4 v5 cc ee h0 n0 Z0 F1 A1 F2 he
  · exact rmc4 l Z a0 hw ws a1 a2 ar v0 v1 v2 v3 v4 v5 v6 v7 cc ee h0 n0 Z0 F1 A1 F2 he
def EX (k n s e c x : Int32) : Int32 := if n < k then x else if c < s then x else if c < e then (1 : Int32) else x
def EB (x : Int32) : Int32 := if x = (0 : Int32) then (0 : Int32) else (1 : Int32)
def EE (n s0 e0 s1 e1 s2 e2 s3 e3 c : Int32) : Int32 := EX (4 : Int32) n s3 e3 c (EX (3 : Int32) n s2 e2 c (EX (2 : Int32) n s1 e1 c (EX (1 : Int32) n s0 e0 c (0 : Int32))))
set_option maxRecDepth 65536 in
set_option maxHeartbeats 40000000 in
theorem blk375 {p : Program} {l : Launch} {e : Env} {s : State} {m : MethodId} {args : Array Value} {below : List Frame} {meth : Method} {c : Code} {T : State} {locs : List Loc} {Z : State} {a0 : Array Value} {h0 : Heap} {n0 : Nat} (p1 p2 : Int32) (q3 : Int64) (p4 p5 x6 x7 x8 x9 x10 x11 x12 x13 x14 : Int32) (a15 : Addr) (cc x17 : Int32) (vs : List Value)
    (X0 : Stand p l e room_1 s m args below meth c T locs 1 8) (hx : p.tables.exec = Jvm.exec) (hZ : Z.Warmed39 s.vm) (hw : ∀ d ∈ tables_1, d.before a0 Z = true) (hby : c.code = code) (hml : c.maxLocals = 20) (hown : s.vm.findClass "com/example/ruled_ledger/ruledledger/model/CatchHandlerCoversCodeOfPinLaw" = some m.cls) (hlk : meth.locks = false) (hret : meth.sig.returnType = ret) (hnm : meth.name = "law") (N0 : Fr n0 locs) (Z0 : n0 ≤ h0.size) (e0 : T.heap = h0) (A15 : Ax Z h0 a15 .int vs) (hcv : CovOK vs cc x17) :
    DoneW p e below s (fun v h L => v = some (.int 1) ∧ Fr n0 L) room_1.cells room_1.slots (T.setTop (mkF m 375 #[.val (.int p1), .val (.int p2), .val (.long q3), .second, .val (.int p4), .val (.int p5), .val (.int x6), .val (.int x7), .val (.int x8), .val (.int x9), .val (.int x10), .val (.int x11), .val (.int x12), .val (.int x13), .val (.int x14), .val (.ref a15), .val (.int cc), .val (.int x17), .unset, .unset] [])) := by
  show DoneW p e below s _ _ _ (T.setTop (mkF m 375 #[.val (.int p1), .val (.int p2), .val (.long q3), .second, .val (.int p4), .val (.int p5), .val (.int x6), .val (.int x7), .val (.int x8), .val (.int x9), .val (.int x10), .val (.int x11), .val (.int x12), .val (.int x13), .val (.int x14), .val (.ref a15), .val (.int cc), .val (.int x17), .unset, .unset] []))
  obtain ⟨T101, h101, X101, e101, E101, A101, D101, -, st101⟩ := newO X0 hx hZ hown (hw _ (List.mem_of_getElem? (i := 7) rfl)) (hw _ (List.mem_of_getElem? (i := 8) rfl)) (hw _ (List.mem_of_getElem? (i := 9) rfl)) e0 (g := (mkF m 375 #[.val (.int p1), .val (.int p2), .val (.long q3), .second, .val (.int p4), .val (.int p5), .val (.int x6), .val (.int x7), .val (.int x8), .val (.int x9), .val (.int x10), .val (.int x11), .val (.int x12), .val (.int x13), .val (.int x14), .val (.ref a15), .val (.int cc), .val (.int x17), .unset, .unset] [])) rfl (hb hby at_375) (by decide) (by decide)
  obtain ⟨b101, gq101⟩ : ∃ z, z = h0.size := ⟨_, rfl⟩
  rw [← gq101] at A101 D101 st101
  have ne102 : a15 ≠ b101 := Nat.ne_of_lt (Nat.lt_of_lt_of_le A15.lt (Nat.le_of_eq gq101.symm))
  have f103 : Ax Z h101 a15 .int vs := A15.ext E101
  have g_b101 : n0 ≤ b101 := Nat.le_trans Z0 (Nat.le_of_eq gq101.symm)
  have Z101 : n0 ≤ h101.size := Nat.le_trans Z0 E101.1
  have f104 : Fld Z h101 b101 "com/example/ruled_ledger/ruledledger/model/CatchHandler" "caughtClass" "Ljava/lang/String;" .null := D101 (Or.inr (hw _ (List.mem_of_getElem? (i := 25) rfl))) (ty := (.object "java/lang/String")) (by decide)
  have f105 : Fld Z h101 b101 "com/example/ruled_ledger/ruledledger/model/CatchHandler" "canEndWithoutThrowing" "Z" (.int (0 : Int32)) := D101 (Or.inr (hw _ (List.mem_of_getElem? (i := 27) rfl))) (ty := .boolean) (by decide)
  have f106 : Fld Z h101 b101 "com/example/ruled_ledger/ruledledger/model/CatchHandler" "codeStart" "I" (.int (0 : Int32)) := D101 (Or.inr (hw _ (List.mem_of_getElem? (i := 29) rfl))) (ty := .int) (by decide)
  have f107 : Fld Z h101 b101 "com/example/ruled_ledger/ruledledger/model/CatchHandler" "ranges" "[I" .null := D101 (Or.inr (hw _ (List.mem_of_getElem? (i := 31) rfl))) (ty := (.array .int)) (by decide)
  refine DoneW.step st101 ?_
  show DoneW p e below s _ _ _ (T101.setTop (mkF m 378 #[.val (.int p1), .val (.int p2), .val (.long q3), .second, .val (.int p4), .val (.int p5), .val (.int x6), .val (.int x7), .val (.int x8), .val (.int x9), .val (.int x10), .val (.int x11), .val (.int x12), .val (.int x13), .val (.int x14), .val (.ref a15), .val (.int cc), .val (.int x17), .unset, .unset] [(.ref b101)]))
  refine DoneW.step (fun t k => XS.dup X101.here hx rfl (hb hby at_378) rfl rfl k) ?_
  show DoneW p e below s _ _ _ (T101.setTop (mkF m 379 #[.val (.int p1), .val (.int p2), .val (.long q3), .second, .val (.int p4), .val (.int p5), .val (.int x6), .val (.int x7), .val (.int x8), .val (.int x9), .val (.int x10), .val (.int x11), .val (.int x12), .val (.int x13), .val (.int x14), .val (.ref a15), .val (.int cc), .val (.int x17), .unset, .unset] [(.ref b101), (.ref b101)]))
  obtain ⟨b108, T108, h108, k108, X108, e108, E108, S108, sz108, hZ, hown, st108⟩ := ldcS (s := s) (vm0 := s.vm) X101 hx hZ hown (hw _ (List.mem_of_getElem? (i := 10) rfl)) (own_wS hw) e101 ((State.WarmedH.refl s).since 0) (Nat.zero_le _) (g := (mkF m 379 #[.val (.int p1), .val (.int p2), .val (.long q3), .second, .val (.int p4), .val (.int p5), .val (.int x6), .val (.int x7), .val (.int x8), .val (.int x9), .val (.int x10), .val (.int x11), .val (.int x12), .val (.int x13), .val (.int x14), .val (.ref a15), .val (.int cc), .val (.int x17), .unset, .unset] [(.ref b101), (.ref b101)])) rfl (hb hby at_379) (n := 76) (by decide +kernel) (by decide) (by decide) (by decide)
  have f109 : Ax Z h108 a15 .int vs := f103.ext E108
  have f110 : Exa Z h108 b101 "com/example/ruled_ledger/ruledledger/model/CatchHandler" := A101.ext E108
  have f111 : Fld Z h108 b101 "com/example/ruled_ledger/ruledledger/model/CatchHandler" "caughtClass" "Ljava/lang/String;" .null := f104.ext E108
  have f112 : Fld Z h108 b101 "com/example/ruled_ledger/ruledledger/model/CatchHandler" "canEndWithoutThrowing" "Z" (.int (0 : Int32)) := f105.ext E108
  have f113 : Fld Z h108 b101 "com/example/ruled_ledger/ruledledger/model/CatchHandler" "codeStart" "I" (.int (0 : Int32)) := f106.ext E108
  have f114 : Fld Z h108 b101 "com/example/ruled_ledger/ruledledger/model/CatchHandler" "ranges" "[I" .null := f107.ext E108
  have Z108 : n0 ≤ h108.size := Nat.le_trans Z101 E108.1
  have z108 : Sz k108 h108 := sz108
  refine DoneW.step st108 ?_
  show DoneW p e below s _ _ _ (T108.setTop (mkF m 381 #[.val (.int p1), .val (.int p2), .val (.long q3), .second, .val (.int p4), .val (.int p5), .val (.int x6), .val (.int x7), .val (.int x8), .val (.int x9), .val (.int x10), .val (.int x11), .val (.int x12), .val (.int x13), .val (.int x14), .val (.ref a15), .val (.int cc), .val (.int x17), .unset, .unset] [(.ref b108), (.ref b101), (.ref b101)]))
  refine DoneW.step (fun t k => XS.iload X108.here hx rfl (hb hby at_381) rfl k) ?_
  show DoneW p e below s _ _ _ (T108.setTop (mkF m 383 #[.val (.int p1), .val (.int p2), .val (.long q3), .second, .val (.int p4), .val (.int p5), .val (.int x6), .val (.int x7), .val (.int x8), .val (.int x9), .val (.int x10), .val (.int x11), .val (.int x12), .val (.int x13), .val (.int x14), .val (.ref a15), .val (.int cc), .val (.int x17), .unset, .unset] [(.int p5), (.ref b108), (.ref b101), (.ref b101)]))
  refine DoneW.step (fun t k => XS.iconst X108.here hx rfl (hb hby at_383) k) ?_
  show DoneW p e below s _ _ _ (T108.setTop (mkF m 384 #[.val (.int p1), .val (.int p2), .val (.long q3), .second, .val (.int p4), .val (.int p5), .val (.int x6), .val (.int x7), .val (.int x8), .val (.int x9), .val (.int x10), .val (.int x11), .val (.int x12), .val (.int x13), .val (.int x14), .val (.ref a15), .val (.int cc), .val (.int x17), .unset, .unset] [(.int (2 : Int32)), (.int p5), (.ref b108), (.ref b101), (.ref b101)]))
  refine DoneW.step (fun t k => XS.iand X108.here hx rfl (hb hby at_384) rfl k) ?_
  show DoneW p e below s _ _ _ (T108.setTop (mkF m 385 #[.val (.int p1), .val (.int p2), .val (.long q3), .second, .val (.int p4), .val (.int p5), .val (.int x6), .val (.int x7), .val (.int x8), .val (.int x9), .val (.int x10), .val (.int x11), .val (.int x12), .val (.int x13), .val (.int x14), .val (.ref a15), .val (.int cc), .val (.int x17), .unset, .unset] [(.int (p5 &&& (2 : Int32))), (.ref b108), (.ref b101), (.ref b101)]))
  have J115 : DoneW p e below s (fun v h L => v = some (.int 1) ∧ Fr n0 L) room_1.cells room_1.slots (T108.setTop (mkF m 393 #[.val (.int p1), .val (.int p2), .val (.long q3), .second, .val (.int p4), .val (.int p5), .val (.int x6), .val (.int x7), .val (.int x8), .val (.int x9), .val (.int x10), .val (.int x11), .val (.int x12), .val (.int x13), .val (.int x14), .val (.ref a15), .val (.int cc), .val (.int x17), .unset, .unset] [(.int (EB (p5 &&& (2 : Int32)))), (.ref b108), (.ref b101), (.ref b101)])) → DoneW p e below s (fun v h L => v = some (.int 1) ∧ Fr n0 L) room_1.cells room_1.slots (T108.setTop (mkF m 385 #[.val (.int p1), .val (.int p2), .val (.long q3), .second, .val (.int p4), .val (.int p5), .val (.int x6), .val (.int x7), .val (.int x8), .val (.int x9), .val (.int x10), .val (.int x11), .val (.int x12), .val (.int x13), .val (.int x14), .val (.ref a15), .val (.int cc), .val (.int x17), .unset, .unset] [(.int (p5 &&& (2 : Int32))), (.ref b108), (.ref b101), (.ref b101)])) := by
    intro hJ
    show DoneW p e below s _ _ _ (T108.setTop (mkF m 385 #[.val (.int p1), .val (.int p2), .val (.long q3), .second, .val (.int p4), .val (.int p5), .val (.int x6), .val (.int x7), .val (.int x8), .val (.int x9), .val (.int x10), .val (.int x11), .val (.int x12), .val (.int x13), .val (.int x14), .val (.ref a15), .val (.int cc), .val (.int x17), .unset, .unset] [(.int (p5 &&& (2 : Int32))), (.ref b108), (.ref b101), (.ref b101)]))
    by_cases c1 : (p5 &&& (2 : Int32)) = (0 : Int32)
    · refine DoneW.step (fun t k => XS.ifYes X108.here hx rfl (pc0 := 385) (pc' := 392) rfl (hb hby at_385) rfl ((if0 _ _).trans (teq c1).1) (by decide) (by decide) k) ?_
      show DoneW p e below s _ _ _ (T108.setTop (mkF m 392 #[.val (.int p1), .val (.int p2), .val (.long q3), .second, .val (.int p4), .val (.int p5), .val (.int x6), .val (.int x7), .val (.int x8), .val (.int x9), .val (.int x10), .val (.int x11), .val (.int x12), .val (.int x13), .val (.int x14), .val (.ref a15), .val (.int cc), .val (.int x17), .unset, .unset] [(.ref b108), (.ref b101), (.ref b101)]))
      refine DoneW.step (fun t k => XS.iconst X108.here hx rfl (hb hby at_392) k) ?_
      show DoneW p e below s _ _ _ (T108.setTop (mkF m 393 #[.val (.int p1), .val (.int p2), .val (.long q3), .second, .val (.int p4), .val (.int p5), .val (.int x6), .val (.int x7), .val (.int x8), .val (.int x9), .val (.int x10), .val (.int x11), .val (.int x12), .val (.int x13), .val (.int x14), .val (.ref a15), .val (.int cc), .val (.int x17), .unset, .unset] [(.int (0 : Int32)), (.ref b108), (.ref b101), (.ref b101)]))
      rw [show (EB (p5 &&& (2 : Int32))) = (0 : Int32) from by unfold EB; rw [if_pos c1]] at hJ
      exact hJ
    · refine DoneW.step (fun t k => XS.ifNo X108.here hx rfl (hb hby at_385) rfl ((if0 _ _).trans (feq c1).1) k) ?_
      show DoneW p e below s _ _ _ (T108.setTop (mkF m 388 #[.val (.int p1), .val (.int p2), .val (.long q3), .second, .val (.int p4), .val (.int p5), .val (.int x6), .val (.int x7), .val (.int x8), .val (.int x9), .val (.int x10), .val (.int x11), .val (.int x12), .val (.int x13), .val (.int x14), .val (.ref a15), .val (.int cc), .val (.int x17), .unset, .unset] [(.ref b108), (.ref b101), (.ref b101)]))
      refine DoneW.step (fun t k => XS.iconst X108.here hx rfl (hb hby at_388) k) ?_
      show DoneW p e below s _ _ _ (T108.setTop (mkF m 389 #[.val (.int p1), .val (.int p2), .val (.long q3), .second, .val (.int p4), .val (.int p5), .val (.int x6), .val (.int x7), .val (.int x8), .val (.int x9), .val (.int x10), .val (.int x11), .val (.int x12), .val (.int x13), .val (.int x14), .val (.ref a15), .val (.int cc), .val (.int x17), .unset, .unset] [(.int (1 : Int32)), (.ref b108), (.ref b101), (.ref b101)]))
      refine DoneW.step (fun t k => XS.goto X108.here hx rfl (pc0 := 389) (pc' := 393) rfl (hb hby at_389) (by decide) (by decide) k) ?_
      show DoneW p e below s _ _ _ (T108.setTop (mkF m 393 #[.val (.int p1), .val (.int p2), .val (.long q3), .second, .val (.int p4), .val (.int p5), .val (.int x6), .val (.int x7), .val (.int x8), .val (.int x9), .val (.int x10), .val (.int x11), .val (.int x12), .val (.int x13), .val (.int x14), .val (.ref a15), .val (.int cc), .val (.int x17), .unset, .unset] [(.int (1 : Int32)), (.ref b108), (.ref b101), (.ref b101)]))
      rw [show (EB (p5 &&& (2 : Int32))) = (1 : Int32) from by unfold EB; rw [if_neg c1]] at hJ
      exact hJ
  refine J115 ?_
  show DoneW p e below s _ _ _ (T108.setTop (mkF m 393 #[.val (.int p1), .val (.int p2), .val (.long q3), .second, .val (.int p4), .val (.int p5), .val (.int x6), .val (.int x7), .val (.int x8), .val (.int x9), .val (.int x10), .val (.int x11), .val (.int x12), .val (.int x13), .val (.int x14), .val (.ref a15), .val (.int cc), .val (.int x17), .unset, .unset] [(.int (EB (p5 &&& (2 : Int32)))), (.ref b108), (.ref b101), (.ref b101)]))
  refine DoneW.step (fun t k => XS.iloadN X108.here hx rfl (hb hby at_393) rfl k) ?_
  show DoneW p e below s _ _ _ (T108.setTop (mkF m 394 #[.val (.int p1), .val (.int p2), .val (.long q3), .second, .val (.int p4), .val (.int p5), .val (.int x6), .val (.int x7), .val (.int x8), .val (.int x9), .val (.int x10), .val (.int x11), .val (.int x12), .val (.int x13), .val (.int x14), .val (.ref a15), .val (.int cc), .val (.int x17), .unset, .unset] [(.int p1), (.int (EB (p5 &&& (2 : Int32)))), (.ref b108), (.ref b101), (.ref b101)]))
  refine DoneW.step (fun t k => XS.aload X108.here hx rfl (hb hby at_394) rfl rfl k) ?_
  show DoneW p e below s _ _ _ (T108.setTop (mkF m 396 #[.val (.int p1), .val (.int p2), .val (.long q3), .second, .val (.int p4), .val (.int p5), .val (.int x6), .val (.int x7), .val (.int x8), .val (.int x9), .val (.int x10), .val (.int x11), .val (.int x12), .val (.int x13), .val (.int x14), .val (.ref a15), .val (.int cc), .val (.int x17), .unset, .unset] [(.ref a15), (.int p1), (.int (EB (p5 &&& (2 : Int32)))), (.ref b108), (.ref b101), (.ref b101)]))
  obtain ⟨v116, _, ⟨T116, L116, k116, n116⟩, -, X116, ⟨Lc116, hQ116, l116, y116, z116⟩, st116⟩ := X108.specialBack hx (y := (⟨"com/example/ruled_ledger/ruledledger/model/CatchHandler", "<init>", "(Ljava/lang/String;ZI[I)V"⟩ : MethodName)) rfl hown (mvT hZ (hw _ (List.mem_of_getElem? (i := 18) rfl))) (mvT hZ (hw _ (List.mem_of_getElem? (i := 19) rfl))) (mvT hZ (hw _ (List.mem_of_getElem? (i := 20) rfl))) (by decide) (backOf (W := 1) (rm2 l Z a0 hw [] b101 b108 (EB (p5 &&& (2 : Int32))) p1 a15  h108 n0 Z108 f110 f111 f112 f113 f114 g_b101) hZ (hw _ (List.mem_of_getElem? (i := 20) rfl)) (hw _ (List.mem_of_getElem? (i := 9) rfl)) (by decide) (by decide)) (g := (mkF m 396 #[.val (.int p1), .val (.int p2), .val (.long q3), .second, .val (.int p4), .val (.int p5), .val (.int x6), .val (.int x7), .val (.int x8), .val (.int x9), .val (.int x10), .val (.int x11), .val (.int x12), .val (.int x13), .val (.int x14), .val (.ref a15), .val (.int cc), .val (.int x17), .unset, .unset] [(.ref a15), (.int p1), (.int (EB (p5 &&& (2 : Int32)))), (.ref b108), (.ref b101), (.ref b101)])) rfl (by rw [hml]; rfl) (Steps.refl _) (a := b101) (argsL := [(.ref b108), (.int (EB (p5 &&& (2 : Int32)))), (.int p1), (.ref a15)]) (rest := [(.ref b101)]) (lenOf pd_0 rfl) rfl (by show 2 * 0 + _ ≤ _; exact Nat.le_of_eq rfl) (hb hby at_396) (fun _ _ => ⟨rfl, e108, (by decide : 4 + 0 ≤ _), (by decide : 92 + 0 ≤ _)⟩)
  dsimp only [Pt.U, Pt.locs, Pt.cells, Pt.slots] at X116 l116 y116 z116 st116 hQ116
  subst l116 y116 z116
  refine DoneW.far st116 ?_
  obtain ⟨rfl, N116q, K116q, x116, y116_0, y116_1⟩ := hQ116
  have N116 := Fr.app N0 N116q
  have f117 : Ax Z T116.heap a15 .int vs := f109.keep K116q (ninS ne102 nin0)
  have f118 : Exa Z T116.heap b101 "com/example/ruled_ledger/ruledledger/model/CatchHandler" := f110.keep K116q
  have f119 : Sz k108 T116.heap := z108.keep K116q
  have Zk116 : n0 ≤ T116.heap.size := Nat.le_trans Z108 K116q.1
  show DoneW p e below s _ _ _ (T116.setTop (mkF m 399 #[.val (.int p1), .val (.int p2), .val (.long q3), .second, .val (.int p4), .val (.int p5), .val (.int x6), .val (.int x7), .val (.int x8), .val (.int x9), .val (.int x10), .val (.int x11), .val (.int x12), .val (.int x13), .val (.int x14), .val (.ref a15), .val (.int cc), .val (.int x17), .unset, .unset] [(.ref b101)]))
  refine DoneW.step (fun t k => XS.astore X116.here hx rfl (hb hby at_399) rfl rfl (l' := #[.val (.int p1), .val (.int p2), .val (.long q3), .second, .val (.int p4), .val (.int p5), .val (.int x6), .val (.int x7), .val (.int x8), .val (.int x9), .val (.int x10), .val (.int x11), .val (.int x12), .val (.int x13), .val (.int x14), .val (.ref a15), .val (.int cc), .val (.int x17), .val (.ref b101), .unset]) rfl k) ?_
  show DoneW p e below s _ _ _ (T116.setTop (mkF m 401 #[.val (.int p1), .val (.int p2), .val (.long q3), .second, .val (.int p4), .val (.int p5), .val (.int x6), .val (.int x7), .val (.int x8), .val (.int x9), .val (.int x10), .val (.int x11), .val (.int x12), .val (.int x13), .val (.int x14), .val (.ref a15), .val (.int cc), .val (.int x17), .val (.ref b101), .unset] []))
  obtain ⟨T120, h120, X120, e120, E120, A120, D120, -, st120⟩ := newO X116 hx hZ hown (hw _ (List.mem_of_getElem? (i := 7) rfl)) (hw _ (List.mem_of_getElem? (i := 8) rfl)) (hw _ (List.mem_of_getElem? (i := 9) rfl)) rfl (g := (mkF m 401 #[.val (.int p1), .val (.int p2), .val (.long q3), .second, .val (.int p4), .val (.int p5), .val (.int x6), .val (.int x7), .val (.int x8), .val (.int x9), .val (.int x10), .val (.int x11), .val (.int x12), .val (.int x13), .val (.int x14), .val (.ref a15), .val (.int cc), .val (.int x17), .val (.ref b101), .unset] [])) rfl (hb hby at_401) (by decide) (by decide)
  obtain ⟨b120, gq120⟩ : ∃ z, z = T116.heap.size := ⟨_, rfl⟩
  rw [← gq120] at A120 D120 st120
  have ne121 : a15 ≠ b120 := Nat.ne_of_lt (Nat.lt_of_lt_of_le f117.lt (Nat.le_of_eq gq120.symm))
  have ne122 : b101 ≠ b120 := Nat.ne_of_lt (Nat.lt_of_lt_of_le f118.lt (Nat.le_of_eq gq120.symm))
  have f123 : Ax Z h120 a15 .int vs := f117.ext E120
  have f124 : Exa Z h120 b101 "com/example/ruled_ledger/ruledledger/model/CatchHandler" := f118.ext E120
  have f125 : Sz k108 h120 := f119.ext E120
  have f126 : Fld Z h120 b101 "com/example/ruled_ledger/ruledledger/model/CatchHandler" "codeStart" "I" (.int p1) := y116_0.ext E120
  have f127 : Fld Z h120 b101 "com/example/ruled_ledger/ruledledger/model/CatchHandler" "ranges" "[I" (.ref a15) := y116_1.ext E120
  have g_b120 : n0 ≤ b120 := Nat.le_trans Zk116 (Nat.le_of_eq gq120.symm)
  have Z120 : n0 ≤ h120.size := Nat.le_trans Zk116 E120.1
  have f128 : Fld Z h120 b120 "com/example/ruled_ledger/ruledledger/model/CatchHandler" "caughtClass" "Ljava/lang/String;" .null := D120 (Or.inr (hw _ (List.mem_of_getElem? (i := 25) rfl))) (ty := (.object "java/lang/String")) (by decide)
  have f129 : Fld Z h120 b120 "com/example/ruled_ledger/ruledledger/model/CatchHandler" "canEndWithoutThrowing" "Z" (.int (0 : Int32)) := D120 (Or.inr (hw _ (List.mem_of_getElem? (i := 27) rfl))) (ty := .boolean) (by decide)
  have f130 : Fld Z h120 b120 "com/example/ruled_ledger/ruledledger/model/CatchHandler" "codeStart" "I" (.int (0 : Int32)) := D120 (Or.inr (hw _ (List.mem_of_getElem? (i := 29) rfl))) (ty := .int) (by decide)
  have f131 : Fld Z h120 b120 "com/example/ruled_ledger/ruledledger/model/CatchHandler" "ranges" "[I" .null := D120 (Or.inr (hw _ (List.mem_of_getElem? (i := 31) rfl))) (ty := (.array .int)) (by decide)
  refine DoneW.step st120 ?_
  show DoneW p e below s _ _ _ (T120.setTop (mkF m 404 #[.val (.int p1), .val (.int p2), .val (.long q3), .second, .val (.int p4), .val (.int p5), .val (.int x6), .val (.int x7), .val (.int x8), .val (.int x9), .val (.int x10), .val (.int x11), .val (.int x12), .val (.int x13), .val (.int x14), .val (.ref a15), .val (.int cc), .val (.int x17), .val (.ref b101), .unset] [(.ref b120)]))
  refine DoneW.step (fun t k => XS.dup X120.here hx rfl (hb hby at_404) rfl rfl k) ?_
  show DoneW p e below s _ _ _ (T120.setTop (mkF m 405 #[.val (.int p1), .val (.int p2), .val (.long q3), .second, .val (.int p4), .val (.int p5), .val (.int x6), .val (.int x7), .val (.int x8), .val (.int x9), .val (.int x10), .val (.int x11), .val (.int x12), .val (.int x13), .val (.int x14), .val (.ref a15), .val (.int cc), .val (.int x17), .val (.ref b101), .unset] [(.ref b120), (.ref b120)]))
  obtain ⟨b132, T132, h132, k132, X132, e132, E132, S132, sz132, hZ, hown, st132⟩ := ldcS (s := s) (vm0 := T108.vm) X120 hx hZ hown (hw _ (List.mem_of_getElem? (i := 32) rfl)) (own_wS hw) e120 S108 f125 (g := (mkF m 405 #[.val (.int p1), .val (.int p2), .val (.long q3), .second, .val (.int p4), .val (.int p5), .val (.int x6), .val (.int x7), .val (.int x8), .val (.int x9), .val (.int x10), .val (.int x11), .val (.int x12), .val (.int x13), .val (.int x14), .val (.ref a15), .val (.int cc), .val (.int x17), .val (.ref b101), .unset] [(.ref b120), (.ref b120)])) rfl (hb hby at_405) (n := 76) (by decide +kernel) (by decide) (by decide) (by decide)
  have f133 : Ax Z h132 a15 .int vs := f123.ext E132
  have f134 : Exa Z h132 b101 "com/example/ruled_ledger/ruledledger/model/CatchHandler" := f124.ext E132
  have f135 : Fld Z h132 b101 "com/example/ruled_ledger/ruledledger/model/CatchHandler" "codeStart" "I" (.int p1) := f126.ext E132
  have f136 : Fld Z h132 b101 "com/example/ruled_ledger/ruledledger/model/CatchHandler" "ranges" "[I" (.ref a15) := f127.ext E132
  have f137 : Exa Z h132 b120 "com/example/ruled_ledger/ruledledger/model/CatchHandler" := A120.ext E132
  have f138 : Fld Z h132 b120 "com/example/ruled_ledger/ruledledger/model/CatchHandler" "caughtClass" "Ljava/lang/String;" .null := f128.ext E132
  have f139 : Fld Z h132 b120 "com/example/ruled_ledger/ruledledger/model/CatchHandler" "canEndWithoutThrowing" "Z" (.int (0 : Int32)) := f129.ext E132
  have f140 : Fld Z h132 b120 "com/example/ruled_ledger/ruledledger/model/CatchHandler" "codeStart" "I" (.int (0 : Int32)) := f130.ext E132
  have f141 : Fld Z h132 b120 "com/example/ruled_ledger/ruledledger/model/CatchHandler" "ranges" "[I" .null := f131.ext E132
  have Z132 : n0 ≤ h132.size := Nat.le_trans Z120 E132.1
  have z132 : Sz k132 h132 := sz132
  refine DoneW.step st132 ?_
  show DoneW p e below s _ _ _ (T132.setTop (mkF m 407 #[.val (.int p1), .val (.int p2), .val (.long q3), .second, .val (.int p4), .val (.int p5), .val (.int x6), .val (.int x7), .val (.int x8), .val (.int x9), .val (.int x10), .val (.int x11), .val (.int x12), .val (.int x13), .val (.int x14), .val (.ref a15), .val (.int cc), .val (.int x17), .val (.ref b101), .unset] [(.ref b132), (.ref b120), (.ref b120)]))
  refine DoneW.step (fun t k => XS.iload X132.here hx rfl (hb hby at_407) rfl k) ?_
  show DoneW p e below s _ _ _ (T132.setTop (mkF m 409 #[.val (.int p1), .val (.int p2), .val (.long q3), .second, .val (.int p4), .val (.int p5), .val (.int x6), .val (.int x7), .val (.int x8), .val (.int x9), .val (.int x10), .val (.int x11), .val (.int x12), .val (.int x13), .val (.int x14), .val (.ref a15), .val (.int cc), .val (.int x17), .val (.ref b101), .unset] [(.int p5), (.ref b132), (.ref b120), (.ref b120)]))
  refine DoneW.step (fun t k => XS.iconst X132.here hx rfl (hb hby at_409) k) ?_
  show DoneW p e below s _ _ _ (T132.setTop (mkF m 410 #[.val (.int p1), .val (.int p2), .val (.long q3), .second, .val (.int p4), .val (.int p5), .val (.int x6), .val (.int x7), .val (.int x8), .val (.int x9), .val (.int x10), .val (.int x11), .val (.int x12), .val (.int x13), .val (.int x14), .val (.ref a15), .val (.int cc), .val (.int x17), .val (.ref b101), .unset] [(.int (4 : Int32)), (.int p5), (.ref b132), (.ref b120), (.ref b120)]))
  refine DoneW.step (fun t k => XS.iand X132.here hx rfl (hb hby at_410) rfl k) ?_
  show DoneW p e below s _ _ _ (T132.setTop (mkF m 411 #[.val (.int p1), .val (.int p2), .val (.long q3), .second, .val (.int p4), .val (.int p5), .val (.int x6), .val (.int x7), .val (.int x8), .val (.int x9), .val (.int x10), .val (.int x11), .val (.int x12), .val (.int x13), .val (.int x14), .val (.ref a15), .val (.int cc), .val (.int x17), .val (.ref b101), .unset] [(.int (p5 &&& (4 : Int32))), (.ref b132), (.ref b120), (.ref b120)]))
  have J142 : DoneW p e below s (fun v h L => v = some (.int 1) ∧ Fr n0 L) room_1.cells room_1.slots (T132.setTop (mkF m 419 #[.val (.int p1), .val (.int p2), .val (.long q3), .second, .val (.int p4), .val (.int p5), .val (.int x6), .val (.int x7), .val (.int x8), .val (.int x9), .val (.int x10), .val (.int x11), .val (.int x12), .val (.int x13), .val (.int x14), .val (.ref a15), .val (.int cc), .val (.int x17), .val (.ref b101), .unset] [(.int (EB (p5 &&& (4 : Int32)))), (.ref b132), (.ref b120), (.ref b120)])) → DoneW p e below s (fun v h L => v = some (.int 1) ∧ Fr n0 L) room_1.cells room_1.slots (T132.setTop (mkF m 411 #[.val (.int p1), .val (.int p2), .val (.long q3), .second, .val (.int p4), .val (.int p5), .val (.int x6), .val (.int x7), .val (.int x8), .val (.int x9), .val (.int x10), .val (.int x11), .val (.int x12), .val (.int x13), .val (.int x14), .val (.ref a15), .val (.int cc), .val (.int x17), .val (.ref b101), .unset] [(.int (p5 &&& (4 : Int32))), (.ref b132), (.ref b120), (.ref b120)])) := by
    intro hJ
    show DoneW p e below s _ _ _ (T132.setTop (mkF m 411 #[.val (.int p1), .val (.int p2), .val (.long q3), .second, .val (.int p4), .val (.int p5), .val (.int x6), .val (.int x7), .val (.int x8), .val (.int x9), .val (.int x10), .val (.int x11), .val (.int x12), .val (.int x13), .val (.int x14), .val (.ref a15), .val (.int cc), .val (.int x17), .val (.ref b101), .unset] [(.int (p5 &&& (4 : Int32))), (.ref b132), (.ref b120), (.ref b120)]))
    by_cases c2 : (p5 &&& (4 : Int32)) = (0 : Int32)
    · refine DoneW.step (fun t k => XS.ifYes X132.here hx rfl (pc0 := 411) (pc' := 418) rfl (hb hby at_411) rfl ((if0 _ _).trans (teq c2).1) (by decide) (by decide) k) ?_
      show DoneW p e below s _ _ _ (T132.setTop (mkF m 418 #[.val (.int p1), .val (.int p2), .val (.long q3), .second, .val (.int p4), .val (.int p5), .val (.int x6), .val (.int x7), .val (.int x8), .val (.int x9), .val (.int x10), .val (.int x11), .val (.int x12), .val (.int x13), .val (.int x14), .val (.ref a15), .val (.int cc), .val (.int x17), .val (.ref b101), .unset] [(.ref b132), (.ref b120), (.ref b120)]))
      refine DoneW.step (fun t k => XS.iconst X132.here hx rfl (hb hby at_418) k) ?_
      show DoneW p e below s _ _ _ (T132.setTop (mkF m 419 #[.val (.int p1), .val (.int p2), .val (.long q3), .second, .val (.int p4), .val (.int p5), .val (.int x6), .val (.int x7), .val (.int x8), .val (.int x9), .val (.int x10), .val (.int x11), .val (.int x12), .val (.int x13), .val (.int x14), .val (.ref a15), .val (.int cc), .val (.int x17), .val (.ref b101), .unset] [(.int (0 : Int32)), (.ref b132), (.ref b120), (.ref b120)]))
      rw [show (EB (p5 &&& (4 : Int32))) = (0 : Int32) from by unfold EB; rw [if_pos c2]] at hJ
      exact hJ
    · refine DoneW.step (fun t k => XS.ifNo X132.here hx rfl (hb hby at_411) rfl ((if0 _ _).trans (feq c2).1) k) ?_
      show DoneW p e below s _ _ _ (T132.setTop (mkF m 414 #[.val (.int p1), .val (.int p2), .val (.long q3), .second, .val (.int p4), .val (.int p5), .val (.int x6), .val (.int x7), .val (.int x8), .val (.int x9), .val (.int x10), .val (.int x11), .val (.int x12), .val (.int x13), .val (.int x14), .val (.ref a15), .val (.int cc), .val (.int x17), .val (.ref b101), .unset] [(.ref b132), (.ref b120), (.ref b120)]))
      refine DoneW.step (fun t k => XS.iconst X132.here hx rfl (hb hby at_414) k) ?_
      show DoneW p e below s _ _ _ (T132.setTop (mkF m 415 #[.val (.int p1), .val (.int p2), .val (.long q3), .second, .val (.int p4), .val (.int p5), .val (.int x6), .val (.int x7), .val (.int x8), .val (.int x9), .val (.int x10), .val (.int x11), .val (.int x12), .val (.int x13), .val (.int x14), .val (.ref a15), .val (.int cc), .val (.int x17), .val (.ref b101), .unset] [(.int (1 : Int32)), (.ref b132), (.ref b120), (.ref b120)]))
      refine DoneW.step (fun t k => XS.goto X132.here hx rfl (pc0 := 415) (pc' := 419) rfl (hb hby at_415) (by decide) (by decide) k) ?_
      show DoneW p e below s _ _ _ (T132.setTop (mkF m 419 #[.val (.int p1), .val (.int p2), .val (.long q3), .second, .val (.int p4), .val (.int p5), .val (.int x6), .val (.int x7), .val (.int x8), .val (.int x9), .val (.int x10), .val (.int x11), .val (.int x12), .val (.int x13), .val (.int x14), .val (.ref a15), .val (.int cc), .val (.int x17), .val (.ref b101), .unset] [(.int (1 : Int32)), (.ref b132), (.ref b120), (.ref b120)]))
      rw [show (EB (p5 &&& (4 : Int32))) = (1 : Int32) from by unfold EB; rw [if_neg c2]] at hJ
      exact hJ
  refine J142 ?_
  show DoneW p e below s _ _ _ (T132.setTop (mkF m 419 #[.val (.int p1), .val (.int p2), .val (.long q3), .second, .val (.int p4), .val (.int p5), .val (.int x6), .val (.int x7), .val (.int x8), .val (.int x9), .val (.int x10), .val (.int x11), .val (.int x12), .val (.int x13), .val (.int x14), .val (.ref a15), .val (.int cc), .val (.int x17), .val (.ref b101), .unset] [(.int (EB (p5 &&& (4 : Int32)))), (.ref b132), (.ref b120), (.ref b120)]))
  refine DoneW.step (fun t k => XS.iload X132.here hx rfl (hb hby at_419) rfl k) ?_
  show DoneW p e below s _ _ _ (T132.setTop (mkF m 421 #[.val (.int p1), .val (.int p2), .val (.long q3), .second, .val (.int p4), .val (.int p5), .val (.int x6), .val (.int x7), .val (.int x8), .val (.int x9), .val (.int x10), .val (.int x11), .val (.int x12), .val (.int x13), .val (.int x14), .val (.ref a15), .val (.int cc), .val (.int x17), .val (.ref b101), .unset] [(.int cc), (.int (EB (p5 &&& (4 : Int32)))), (.ref b132), (.ref b120), (.ref b120)]))
  refine DoneW.step (fun t k => XS.iconst X132.here hx rfl (hb hby at_421) k) ?_
  show DoneW p e below s _ _ _ (T132.setTop (mkF m 422 #[.val (.int p1), .val (.int p2), .val (.long q3), .second, .val (.int p4), .val (.int p5), .val (.int x6), .val (.int x7), .val (.int x8), .val (.int x9), .val (.int x10), .val (.int x11), .val (.int x12), .val (.int x13), .val (.int x14), .val (.ref a15), .val (.int cc), .val (.int x17), .val (.ref b101), .unset] [(.int (0 : Int32)), (.int cc), (.int (EB (p5 &&& (4 : Int32)))), (.ref b132), (.ref b120), (.ref b120)]))
  obtain ⟨T143, h143, k143, X143, e143, E143, A143, B143, st143⟩ := newPE X132 hx hZ (hw _ (List.mem_of_getElem? (i := 6) rfl)) e132 (g := (mkF m 422 #[.val (.int p1), .val (.int p2), .val (.long q3), .second, .val (.int p4), .val (.int p5), .val (.int x6), .val (.int x7), .val (.int x8), .val (.int x9), .val (.int x10), .val (.int x11), .val (.int x12), .val (.int x13), .val (.int x14), .val (.ref a15), .val (.int cc), .val (.int x17), .val (.ref b101), .unset] [(.int (0 : Int32)), (.int cc), (.int (EB (p5 &&& (4 : Int32)))), (.ref b132), (.ref b120), (.ref b120)])) rfl (hb hby at_422) rfl (by decide) (cap := 0) (by decide) (by decide) (by decide) (by decide) (ad := "[I") (by decide)
  obtain ⟨b143, gq143⟩ : ∃ z, z = h132.size := ⟨_, rfl⟩
  rw [← gq143] at A143 B143 st143
  have ne144 : a15 ≠ b143 := Nat.ne_of_lt (Nat.lt_of_lt_of_le f133.lt (Nat.le_of_eq gq143.symm))
  have ne145 : b101 ≠ b143 := Nat.ne_of_lt (Nat.lt_of_lt_of_le f134.lt (Nat.le_of_eq gq143.symm))
  have ne146 : b120 ≠ b143 := Nat.ne_of_lt (Nat.lt_of_lt_of_le f137.lt (Nat.le_of_eq gq143.symm))
  have f147 : Ax Z h143 a15 .int vs := f133.ext E143
  have f148 : Exa Z h143 b101 "com/example/ruled_ledger/ruledledger/model/CatchHandler" := f134.ext E143
  have f149 : Fld Z h143 b101 "com/example/ruled_ledger/ruledledger/model/CatchHandler" "codeStart" "I" (.int p1) := f135.ext E143
  have f150 : Fld Z h143 b101 "com/example/ruled_ledger/ruledledger/model/CatchHandler" "ranges" "[I" (.ref a15) := f136.ext E143
  have f151 : Exa Z h143 b120 "com/example/ruled_ledger/ruledledger/model/CatchHandler" := f137.ext E143
  have f152 : Fld Z h143 b120 "com/example/ruled_ledger/ruledledger/model/CatchHandler" "caughtClass" "Ljava/lang/String;" .null := f138.ext E143
  have f153 : Fld Z h143 b120 "com/example/ruled_ledger/ruledledger/model/CatchHandler" "canEndWithoutThrowing" "Z" (.int (0 : Int32)) := f139.ext E143
  have f154 : Fld Z h143 b120 "com/example/ruled_ledger/ruledledger/model/CatchHandler" "codeStart" "I" (.int (0 : Int32)) := f140.ext E143
  have f155 : Fld Z h143 b120 "com/example/ruled_ledger/ruledledger/model/CatchHandler" "ranges" "[I" .null := f141.ext E143
  have f156 : Sz k132 h143 := z132.ext E143
  have g_b143 : n0 ≤ b143 := Nat.le_trans Z132 (Nat.le_of_eq gq143.symm)
  have Z143 : n0 ≤ h143.size := Nat.le_trans Z132 E143.1
  have f157 : Ax Z h143 b143 .int [] := Ax.new (ty := .int) (i := 0) A143 (by decide)
  refine DoneW.step st143 ?_
  show DoneW p e below s _ _ _ (T143.setTop (mkF m 424 #[.val (.int p1), .val (.int p2), .val (.long q3), .second, .val (.int p4), .val (.int p5), .val (.int x6), .val (.int x7), .val (.int x8), .val (.int x9), .val (.int x10), .val (.int x11), .val (.int x12), .val (.int x13), .val (.int x14), .val (.ref a15), .val (.int cc), .val (.int x17), .val (.ref b101), .unset] [(.ref b143), (.int cc), (.int (EB (p5 &&& (4 : Int32)))), (.ref b132), (.ref b120), (.ref b120)]))
  obtain ⟨v158, _, ⟨T158, L158, k158, n158⟩, -, X158, ⟨Lc158, hQ158, l158, y158, z158⟩, st158⟩ := X143.specialBack hx (y := (⟨"com/example/ruled_ledger/ruledledger/model/CatchHandler", "<init>", "(Ljava/lang/String;ZI[I)V"⟩ : MethodName)) rfl hown (mvT hZ (hw _ (List.mem_of_getElem? (i := 18) rfl))) (mvT hZ (hw _ (List.mem_of_getElem? (i := 19) rfl))) (mvT hZ (hw _ (List.mem_of_getElem? (i := 20) rfl))) (by decide) (backOf (W := 1) (rm2 l Z a0 hw [] b120 b132 (EB (p5 &&& (4 : Int32))) cc b143  h143 n0 Z143 f151 f152 f153 f154 f155 g_b120) hZ (hw _ (List.mem_of_getElem? (i := 20) rfl)) (hw _ (List.mem_of_getElem? (i := 9) rfl)) (by decide) (by decide)) (g := (mkF m 424 #[.val (.int p1), .val (.int p2), .val (.long q3), .second, .val (.int p4), .val (.int p5), .val (.int x6), .val (.int x7), .val (.int x8), .val (.int x9), .val (.int x10), .val (.int x11), .val (.int x12), .val (.int x13), .val (.int x14), .val (.ref a15), .val (.int cc), .val (.int x17), .val (.ref b101), .unset] [(.ref b143), (.int cc), (.int (EB (p5 &&& (4 : Int32)))), (.ref b132), (.ref b120), (.ref b120)])) rfl (by rw [hml]; rfl) (Steps.refl _) (a := b120) (argsL := [(.ref b132), (.int (EB (p5 &&& (4 : Int32)))), (.int cc), (.ref b143)]) (rest := [(.ref b120)]) (lenOf pd_0 rfl) rfl (by show 2 * 0 + _ ≤ _; exact Nat.le_of_eq rfl) (hb hby at_424) (fun _ _ => ⟨rfl, e143, (by decide : 8 + 0 ≤ _), (by decide : 176 + 0 ≤ _)⟩)
  dsimp only [Pt.U, Pt.locs, Pt.cells, Pt.slots] at X158 l158 y158 z158 st158 hQ158
  subst l158 y158 z158
  refine DoneW.far st158 ?_
  obtain ⟨rfl, N158q, K158q, x158, y158_0, y158_1⟩ := hQ158
  have N158 := Fr.app N116 N158q
  have f159 : Ax Z T158.heap a15 .int vs := f147.keep K158q (ninS ne121 nin0)
  have f160 : Exa Z T158.heap b101 "com/example/ruled_ledger/ruledledger/model/CatchHandler" := f148.keep K158q
  have f161 : Fld Z T158.heap b101 "com/example/ruled_ledger/ruledledger/model/CatchHandler" "codeStart" "I" (.int p1) := f149.keep K158q (ninS ne122 nin0)
  have f162 : Fld Z T158.heap b101 "com/example/ruled_ledger/ruledledger/model/CatchHandler" "ranges" "[I" (.ref a15) := f150.keep K158q (ninS ne122 nin0)
  have f163 : Exa Z T158.heap b120 "com/example/ruled_ledger/ruledledger/model/CatchHandler" := f151.keep K158q
  have f164 : Sz k132 T158.heap := f156.keep K158q
  have f165 : Exa Z T158.heap b143 "[I" := B143.keep K158q
  have f166 : Ax Z T158.heap b143 .int [] := f157.keep K158q (ninS (Ne.symm ne146) nin0)
  have Zk158 : n0 ≤ T158.heap.size := Nat.le_trans Z143 K158q.1
  show DoneW p e below s _ _ _ (T158.setTop (mkF m 427 #[.val (.int p1), .val (.int p2), .val (.long q3), .second, .val (.int p4), .val (.int p5), .val (.int x6), .val (.int x7), .val (.int x8), .val (.int x9), .val (.int x10), .val (.int x11), .val (.int x12), .val (.int x13), .val (.int x14), .val (.ref a15), .val (.int cc), .val (.int x17), .val (.ref b101), .unset] [(.ref b120)]))
  refine DoneW.step (fun t k => XS.astore X158.here hx rfl (hb hby at_427) rfl rfl (l' := #[.val (.int p1), .val (.int p2), .val (.long q3), .second, .val (.int p4), .val (.int p5), .val (.int x6), .val (.int x7), .val (.int x8), .val (.int x9), .val (.int x10), .val (.int x11), .val (.int x12), .val (.int x13), .val (.int x14), .val (.ref a15), .val (.int cc), .val (.int x17), .val (.ref b101), .val (.ref b120)]) rfl k) ?_
  show DoneW p e below s _ _ _ (T158.setTop (mkF m 429 #[.val (.int p1), .val (.int p2), .val (.long q3), .second, .val (.int p4), .val (.int p5), .val (.int x6), .val (.int x7), .val (.int x8), .val (.int x9), .val (.int x10), .val (.int x11), .val (.int x12), .val (.int x13), .val (.int x14), .val (.ref a15), .val (.int cc), .val (.int x17), .val (.ref b101), .val (.ref b120)] []))
  refine DoneW.step (fun t k => XS.aload X158.here hx rfl (hb hby at_429) rfl rfl k) ?_
  show DoneW p e below s _ _ _ (T158.setTop (mkF m 431 #[.val (.int p1), .val (.int p2), .val (.long q3), .second, .val (.int p4), .val (.int p5), .val (.int x6), .val (.int x7), .val (.int x8), .val (.int x9), .val (.int x10), .val (.int x11), .val (.int x12), .val (.int x13), .val (.int x14), .val (.ref a15), .val (.int cc), .val (.int x17), .val (.ref b101), .val (.ref b120)] [(.ref b101)]))
  refine DoneW.step (fun t k => XS.aload X158.here hx rfl (hb hby at_431) rfl rfl k) ?_
  show DoneW p e below s _ _ _ (T158.setTop (mkF m 433 #[.val (.int p1), .val (.int p2), .val (.long q3), .second, .val (.int p4), .val (.int p5), .val (.int x6), .val (.int x7), .val (.int x8), .val (.int x9), .val (.int x10), .val (.int x11), .val (.int x12), .val (.int x13), .val (.int x14), .val (.ref a15), .val (.int cc), .val (.int x17), .val (.ref b101), .val (.ref b120)] [(.ref b120), (.ref b101)]))
  obtain ⟨cq167, kq167, q167a, q167b, q167c⟩ := isOf hZ rfl f160
  obtain ⟨v167, _, ⟨T167, L167, k167, n167⟩, -, X167, ⟨Lc167, hQ167, l167, y167, z167⟩, st167⟩ := X158.virtualBack hx (y := (⟨"com/example/ruled_ledger/ruledledger/model/CatchHandler", "coversCodeOf", "(Lcom/example/ruled_ledger/ruledledger/model/CatchHandler;)Z"⟩ : MethodName)) (z := (⟨"com/example/ruled_ledger/ruledledger/model/CatchHandler", "coversCodeOf", "(Lcom/example/ruled_ledger/ruledledger/model/CatchHandler;)Z"⟩ : MethodName)) hown (mvT hZ (hw _ (List.mem_of_getElem? (i := 33) rfl))) (mvT hZ (hw _ (List.mem_of_getElem? (i := 34) rfl))) (notFace_of_selects (args := #[]) (mvT hZ (hw _ (List.mem_of_getElem? (i := 36) rfl)))) (mvT hZ (hw _ (List.mem_of_getElem? (i := 36) rfl))) (mvT hZ (hw _ (List.mem_of_getElem? (i := 35) rfl))) (by decide) (backOf (W := 0) (rmC l Z a0 hw [] b101 b120 a15 vs cc x17 T158.heap n0 Zk158 f162 f159 y158_0 hcv) hZ (hw _ (List.mem_of_getElem? (i := 37) rfl)) (hw _ (List.mem_of_getElem? (i := 9) rfl)) (by decide) (by decide)) q167a q167c (g := (mkF m 433 #[.val (.int p1), .val (.int p2), .val (.long q3), .second, .val (.int p4), .val (.int p5), .val (.int x6), .val (.int x7), .val (.int x8), .val (.int x9), .val (.int x10), .val (.int x11), .val (.int x12), .val (.int x13), .val (.int x14), .val (.ref a15), .val (.int cc), .val (.int x17), .val (.ref b101), .val (.ref b120)] [(.ref b120), (.ref b101)])) rfl (by rw [hml]; rfl) (Steps.refl _) (argsL := [(.ref b120)]) (rest := []) (lenOf pd_1 rfl) rfl (by show 2 * 0 + _ ≤ _; exact Nat.le_of_eq rfl) (hb hby at_433) (fun _ _ => ⟨rfl, rfl, (by decide : 8 + 0 ≤ _), (by decide : 176 + 0 ≤ _)⟩)
  dsimp only [Pt.U, Pt.locs, Pt.cells, Pt.slots] at X167 l167 y167 z167 st167 hQ167
  subst l167 y167 z167
  refine DoneW.far st167 ?_
  obtain ⟨rfl, N167q, e167⟩ := hQ167
  have N167 := Fr.app N158 N167q
  show DoneW p e below s _ _ _ (T167.setTop (mkF m 436 #[.val (.int p1), .val (.int p2), .val (.long q3), .second, .val (.int p4), .val (.int p5), .val (.int x6), .val (.int x7), .val (.int x8), .val (.int x9), .val (.int x10), .val (.int x11), .val (.int x12), .val (.int x13), .val (.int x14), .val (.ref a15), .val (.int cc), .val (.int x17), .val (.ref b101), .val (.ref b120)] [(.int x17)]))
  refine DoneW.step (fun t k => XS.iload X167.here hx rfl (hb hby at_436) rfl k) ?_
  show DoneW p e below s _ _ _ (T167.setTop (mkF m 438 #[.val (.int p1), .val (.int p2), .val (.long q3), .second, .val (.int p4), .val (.int p5), .val (.int x6), .val (.int x7), .val (.int x8), .val (.int x9), .val (.int x10), .val (.int x11), .val (.int x12), .val (.int x13), .val (.int x14), .val (.ref a15), .val (.int cc), .val (.int x17), .val (.ref b101), .val (.ref b120)] [(.int x17), (.int x17)]))
  refine DoneW.step (fun t k => XS.icmpNo X167.here hx rfl (hb hby at_438) rfl (teq rfl).2 k) ?_
  show DoneW p e below s _ _ _ (T167.setTop (mkF m 441 #[.val (.int p1), .val (.int p2), .val (.long q3), .second, .val (.int p4), .val (.int p5), .val (.int x6), .val (.int x7), .val (.int x8), .val (.int x9), .val (.int x10), .val (.int x11), .val (.int x12), .val (.int x13), .val (.int x14), .val (.ref a15), .val (.int cc), .val (.int x17), .val (.ref b101), .val (.ref b120)] []))
  refine DoneW.step (fun t k => XS.iconst X167.here hx rfl (hb hby at_441) k) ?_
  show DoneW p e below s _ _ _ (T167.setTop (mkF m 442 #[.val (.int p1), .val (.int p2), .val (.long q3), .second, .val (.int p4), .val (.int p5), .val (.int x6), .val (.int x7), .val (.int x8), .val (.int x9), .val (.int x10), .val (.int x11), .val (.int x12), .val (.int x13), .val (.int x14), .val (.ref a15), .val (.int cc), .val (.int x17), .val (.ref b101), .val (.ref b120)] [(.int (1 : Int32))]))
  refine DoneW.step (fun t k => XS.goto X167.here hx rfl (pc0 := 442) (pc' := 446) rfl (hb hby at_442) (by decide) (by decide) k) ?_
  show DoneW p e below s _ _ _ (T167.setTop (mkF m 446 #[.val (.int p1), .val (.int p2), .val (.long q3), .second, .val (.int p4), .val (.int p5), .val (.int x6), .val (.int x7), .val (.int x8), .val (.int x9), .val (.int x10), .val (.int x11), .val (.int x12), .val (.int x13), .val (.int x14), .val (.ref a15), .val (.int cc), .val (.int x17), .val (.ref b101), .val (.ref b120)] [(.int (1 : Int32))]))
  exact DoneW.narr X167 S132 e167 f164 hx hlk hret (by simp) (hb hby at_446) (by decide) (by decide) ⟨rfl, N167⟩
set_option maxRecDepth 65536 in
set_option maxHeartbeats 40000000 in
theorem blk280 {p : Program} {l : Launch} {e : Env} {s : State} {m : MethodId} {args : Array Value} {below : List Frame} {meth : Method} {c : Code} {T : State} {locs : List Loc} {Z : State} {a0 : Array Value} {h0 : Heap} {n0 : Nat} (p1 p2 : Int32) (q3 : Int64) (p4 p5 x6 x7 x8 x9 x10 x11 x12 x13 x14 : Int32) (a15 : Addr) (cc : Int32) (vs : List Value)
    (X0 : Stand p l e room_1 s m args below meth c T locs 1 8) (hx : p.tables.exec = Jvm.exec) (hZ : Z.Warmed39 s.vm) (hw : ∀ d ∈ tables_1, d.before a0 Z = true) (hby : c.code = code) (hml : c.maxLocals = 20) (hown : s.vm.findClass "com/example/ruled_ledger/ruledledger/model/CatchHandlerCoversCodeOfPinLaw" = some m.cls) (hlk : meth.locks = false) (hret : meth.sig.returnType = ret) (hnm : meth.name = "law") (N0 : Fr n0 locs) (Z0 : n0 ≤ h0.size) (e0 : T.heap = h0) (A15 : Ax Z h0 a15 .int vs) (HC : ∀ c : Int32, CovOK vs c (EE x6 x7 x8 x9 x10 x11 x12 x13 x14 c)) :
    DoneW p e below s (fun v h L => v = some (.int 1) ∧ Fr n0 L) room_1.cells room_1.slots (T.setTop (mkF m 280 #[.val (.int p1), .val (.int p2), .val (.long q3), .second, .val (.int p4), .val (.int p5), .val (.int x6), .val (.int x7), .val (.int x8), .val (.int x9), .val (.int x10), .val (.int x11), .val (.int x12), .val (.int x13), .val (.int x14), .val (.ref a15), .val (.int cc), .unset, .unset, .unset] [])) := by
  show DoneW p e below s _ _ _ (T.setTop (mkF m 280 #[.val (.int p1), .val (.int p2), .val (.long q3), .second, .val (.int p4), .val (.int p5), .val (.int x6), .val (.int x7), .val (.int x8), .val (.int x9), .val (.int x10), .val (.int x11), .val (.int x12), .val (.int x13), .val (.int x14), .val (.ref a15), .val (.int cc), .unset, .unset, .unset] []))
  refine DoneW.step (fun t k => XS.iconst X0.here hx rfl (hb hby at_280) k) ?_
  show DoneW p e below s _ _ _ (T.setTop (mkF m 281 #[.val (.int p1), .val (.int p2), .val (.long q3), .second, .val (.int p4), .val (.int p5), .val (.int x6), .val (.int x7), .val (.int x8), .val (.int x9), .val (.int x10), .val (.int x11), .val (.int x12), .val (.int x13), .val (.int x14), .val (.ref a15), .val (.int cc), .unset, .unset, .unset] [(.int (0 : Int32))]))
  refine DoneW.step (fun t k => XS.istore X0.here hx rfl (hb hby at_281) rfl (l' := #[.val (.int p1), .val (.int p2), .val (.long q3), .second, .val (.int p4), .val (.int p5), .val (.int x6), .val (.int x7), .val (.int x8), .val (.int x9), .val (.int x10), .val (.int x11), .val (.int x12), .val (.int x13), .val (.int x14), .val (.ref a15), .val (.int cc), .val (.int (0 : Int32)), .unset, .unset]) rfl k) ?_
  show DoneW p e below s _ _ _ (T.setTop (mkF m 283 #[.val (.int p1), .val (.int p2), .val (.long q3), .second, .val (.int p4), .val (.int p5), .val (.int x6), .val (.int x7), .val (.int x8), .val (.int x9), .val (.int x10), .val (.int x11), .val (.int x12), .val (.int x13), .val (.int x14), .val (.ref a15), .val (.int cc), .val (.int (0 : Int32)), .unset, .unset] []))
  have J101 : DoneW p e below s (fun v h L => v = some (.int 1) ∧ Fr n0 L) room_1.cells room_1.slots (T.setTop (mkF m 306 #[.val (.int p1), .val (.int p2), .val (.long q3), .second, .val (.int p4), .val (.int p5), .val (.int x6), .val (.int x7), .val (.int x8), .val (.int x9), .val (.int x10), .val (.int x11), .val (.int x12), .val (.int x13), .val (.int x14), .val (.ref a15), .val (.int cc), .val (.int (EX (1 : Int32) x6 x7 x8 cc (0 : Int32))), .unset, .unset] [])) → DoneW p e below s (fun v h L => v = some (.int 1) ∧ Fr n0 L) room_1.cells room_1.slots (T.setTop (mkF m 283 #[.val (.int p1), .val (.int p2), .val (.long q3), .second, .val (.int p4), .val (.int p5), .val (.int x6), .val (.int x7), .val (.int x8), .val (.int x9), .val (.int x10), .val (.int x11), .val (.int x12), .val (.int x13), .val (.int x14), .val (.ref a15), .val (.int cc), .val (.int (0 : Int32)), .unset, .unset] [])) := by
    intro hJ
    show DoneW p e below s _ _ _ (T.setTop (mkF m 283 #[.val (.int p1), .val (.int p2), .val (.long q3), .second, .val (.int p4), .val (.int p5), .val (.int x6), .val (.int x7), .val (.int x8), .val (.int x9), .val (.int x10), .val (.int x11), .val (.int x12), .val (.int x13), .val (.int x14), .val (.ref a15), .val (.int cc), .val (.int (0 : Int32)), .unset, .unset] []))
    refine DoneW.step (fun t k => XS.iload X0.here hx rfl (hb hby at_283) rfl k) ?_
    show DoneW p e below s _ _ _ (T.setTop (mkF m 285 #[.val (.int p1), .val (.int p2), .val (.long q3), .second, .val (.int p4), .val (.int p5), .val (.int x6), .val (.int x7), .val (.int x8), .val (.int x9), .val (.int x10), .val (.int x11), .val (.int x12), .val (.int x13), .val (.int x14), .val (.ref a15), .val (.int cc), .val (.int (0 : Int32)), .unset, .unset] [(.int x6)]))
    refine DoneW.step (fun t k => XS.iconst X0.here hx rfl (hb hby at_285) k) ?_
    show DoneW p e below s _ _ _ (T.setTop (mkF m 286 #[.val (.int p1), .val (.int p2), .val (.long q3), .second, .val (.int p4), .val (.int p5), .val (.int x6), .val (.int x7), .val (.int x8), .val (.int x9), .val (.int x10), .val (.int x11), .val (.int x12), .val (.int x13), .val (.int x14), .val (.ref a15), .val (.int cc), .val (.int (0 : Int32)), .unset, .unset] [(.int (1 : Int32)), (.int x6)]))
    by_cases c1 : x6 < (1 : Int32)
    · refine DoneW.step (fun t k => XS.icmpYes X0.here hx rfl (pc0 := 286) (pc' := 306) rfl (hb hby at_286) rfl (tlt c1).1 (by decide) (by decide) k) ?_
      show DoneW p e below s _ _ _ (T.setTop (mkF m 306 #[.val (.int p1), .val (.int p2), .val (.long q3), .second, .val (.int p4), .val (.int p5), .val (.int x6), .val (.int x7), .val (.int x8), .val (.int x9), .val (.int x10), .val (.int x11), .val (.int x12), .val (.int x13), .val (.int x14), .val (.ref a15), .val (.int cc), .val (.int (0 : Int32)), .unset, .unset] []))
      rw [show (EX (1 : Int32) x6 x7 x8 cc (0 : Int32)) = (0 : Int32) from by unfold EX; rw [if_pos c1]] at hJ
      exact hJ
    · refine DoneW.step (fun t k => XS.icmpNo X0.here hx rfl (hb hby at_286) rfl (flt c1).1 k) ?_
      show DoneW p e below s _ _ _ (T.setTop (mkF m 289 #[.val (.int p1), .val (.int p2), .val (.long q3), .second, .val (.int p4), .val (.int p5), .val (.int x6), .val (.int x7), .val (.int x8), .val (.int x9), .val (.int x10), .val (.int x11), .val (.int x12), .val (.int x13), .val (.int x14), .val (.ref a15), .val (.int cc), .val (.int (0 : Int32)), .unset, .unset] []))
      refine DoneW.step (fun t k => XS.iload X0.here hx rfl (hb hby at_289) rfl k) ?_
      show DoneW p e below s _ _ _ (T.setTop (mkF m 291 #[.val (.int p1), .val (.int p2), .val (.long q3), .second, .val (.int p4), .val (.int p5), .val (.int x6), .val (.int x7), .val (.int x8), .val (.int x9), .val (.int x10), .val (.int x11), .val (.int x12), .val (.int x13), .val (.int x14), .val (.ref a15), .val (.int cc), .val (.int (0 : Int32)), .unset, .unset] [(.int x7)]))
      refine DoneW.step (fun t k => XS.iload X0.here hx rfl (hb hby at_291) rfl k) ?_
      show DoneW p e below s _ _ _ (T.setTop (mkF m 293 #[.val (.int p1), .val (.int p2), .val (.long q3), .second, .val (.int p4), .val (.int p5), .val (.int x6), .val (.int x7), .val (.int x8), .val (.int x9), .val (.int x10), .val (.int x11), .val (.int x12), .val (.int x13), .val (.int x14), .val (.ref a15), .val (.int cc), .val (.int (0 : Int32)), .unset, .unset] [(.int cc), (.int x7)]))
      by_cases c2 : cc < x7
      · refine DoneW.step (fun t k => XS.icmpYes X0.here hx rfl (pc0 := 293) (pc' := 306) rfl (hb hby at_293) rfl (tlt c2).2.2.1 (by decide) (by decide) k) ?_
        show DoneW p e below s _ _ _ (T.setTop (mkF m 306 #[.val (.int p1), .val (.int p2), .val (.long q3), .second, .val (.int p4), .val (.int p5), .val (.int x6), .val (.int x7), .val (.int x8), .val (.int x9), .val (.int x10), .val (.int x11), .val (.int x12), .val (.int x13), .val (.int x14), .val (.ref a15), .val (.int cc), .val (.int (0 : Int32)), .unset, .unset] []))
        rw [show (EX (1 : Int32) x6 x7 x8 cc (0 : Int32)) = (0 : Int32) from by unfold EX; rw [if_neg c1, if_pos c2]] at hJ
        exact hJ
      · refine DoneW.step (fun t k => XS.icmpNo X0.here hx rfl (hb hby at_293) rfl (flt c2).2.2.1 k) ?_
        show DoneW p e below s _ _ _ (T.setTop (mkF m 296 #[.val (.int p1), .val (.int p2), .val (.long q3), .second, .val (.int p4), .val (.int p5), .val (.int x6), .val (.int x7), .val (.int x8), .val (.int x9), .val (.int x10), .val (.int x11), .val (.int x12), .val (.int x13), .val (.int x14), .val (.ref a15), .val (.int cc), .val (.int (0 : Int32)), .unset, .unset] []))
        refine DoneW.step (fun t k => XS.iload X0.here hx rfl (hb hby at_296) rfl k) ?_
        show DoneW p e below s _ _ _ (T.setTop (mkF m 298 #[.val (.int p1), .val (.int p2), .val (.long q3), .second, .val (.int p4), .val (.int p5), .val (.int x6), .val (.int x7), .val (.int x8), .val (.int x9), .val (.int x10), .val (.int x11), .val (.int x12), .val (.int x13), .val (.int x14), .val (.ref a15), .val (.int cc), .val (.int (0 : Int32)), .unset, .unset] [(.int cc)]))
        refine DoneW.step (fun t k => XS.iload X0.here hx rfl (hb hby at_298) rfl k) ?_
        show DoneW p e below s _ _ _ (T.setTop (mkF m 300 #[.val (.int p1), .val (.int p2), .val (.long q3), .second, .val (.int p4), .val (.int p5), .val (.int x6), .val (.int x7), .val (.int x8), .val (.int x9), .val (.int x10), .val (.int x11), .val (.int x12), .val (.int x13), .val (.int x14), .val (.ref a15), .val (.int cc), .val (.int (0 : Int32)), .unset, .unset] [(.int x8), (.int cc)]))
        by_cases c3 : cc < x8
        · refine DoneW.step (fun t k => XS.icmpNo X0.here hx rfl (hb hby at_300) rfl (tlt c3).2.1 k) ?_
          show DoneW p e below s _ _ _ (T.setTop (mkF m 303 #[.val (.int p1), .val (.int p2), .val (.long q3), .second, .val (.int p4), .val (.int p5), .val (.int x6), .val (.int x7), .val (.int x8), .val (.int x9), .val (.int x10), .val (.int x11), .val (.int x12), .val (.int x13), .val (.int x14), .val (.ref a15), .val (.int cc), .val (.int (0 : Int32)), .unset, .unset] []))
          refine DoneW.step (fun t k => XS.iconst X0.here hx rfl (hb hby at_303) k) ?_
          show DoneW p e below s _ _ _ (T.setTop (mkF m 304 #[.val (.int p1), .val (.int p2), .val (.long q3), .second, .val (.int p4), .val (.int p5), .val (.int x6), .val (.int x7), .val (.int x8), .val (.int x9), .val (.int x10), .val (.int x11), .val (.int x12), .val (.int x13), .val (.int x14), .val (.ref a15), .val (.int cc), .val (.int (0 : Int32)), .unset, .unset] [(.int (1 : Int32))]))
          refine DoneW.step (fun t k => XS.istore X0.here hx rfl (hb hby at_304) rfl (l' := #[.val (.int p1), .val (.int p2), .val (.long q3), .second, .val (.int p4), .val (.int p5), .val (.int x6), .val (.int x7), .val (.int x8), .val (.int x9), .val (.int x10), .val (.int x11), .val (.int x12), .val (.int x13), .val (.int x14), .val (.ref a15), .val (.int cc), .val (.int (1 : Int32)), .unset, .unset]) rfl k) ?_
          show DoneW p e below s _ _ _ (T.setTop (mkF m 306 #[.val (.int p1), .val (.int p2), .val (.long q3), .second, .val (.int p4), .val (.int p5), .val (.int x6), .val (.int x7), .val (.int x8), .val (.int x9), .val (.int x10), .val (.int x11), .val (.int x12), .val (.int x13), .val (.int x14), .val (.ref a15), .val (.int cc), .val (.int (1 : Int32)), .unset, .unset] []))
          rw [show (EX (1 : Int32) x6 x7 x8 cc (0 : Int32)) = (1 : Int32) from by unfold EX; rw [if_neg c1, if_neg c2, if_pos c3]] at hJ
          exact hJ
        · refine DoneW.step (fun t k => XS.icmpYes X0.here hx rfl (pc0 := 300) (pc' := 306) rfl (hb hby at_300) rfl (flt c3).2.1 (by decide) (by decide) k) ?_
          show DoneW p e below s _ _ _ (T.setTop (mkF m 306 #[.val (.int p1), .val (.int p2), .val (.long q3), .second, .val (.int p4), .val (.int p5), .val (.int x6), .val (.int x7), .val (.int x8), .val (.int x9), .val (.int x10), .val (.int x11), .val (.int x12), .val (.int x13), .val (.int x14), .val (.ref a15), .val (.int cc), .val (.int (0 : Int32)), .unset, .unset] []))
          rw [show (EX (1 : Int32) x6 x7 x8 cc (0 : Int32)) = (0 : Int32) from by unfold EX; rw [if_neg c1, if_neg c2, if_neg c3]] at hJ
          exact hJ
  refine J101 ?_
  show DoneW p e below s _ _ _ (T.setTop (mkF m 306 #[.val (.int p1), .val (.int p2), .val (.long q3), .second, .val (.int p4), .val (.int p5), .val (.int x6), .val (.int x7), .val (.int x8), .val (.int x9), .val (.int x10), .val (.int x11), .val (.int x12), .val (.int x13), .val (.int x14), .val (.ref a15), .val (.int cc), .val (.int (EX (1 : Int32) x6 x7 x8 cc (0 : Int32))), .unset, .unset] []))
  have J102 : DoneW p e below s (fun v h L => v = some (.int 1) ∧ Fr n0 L) room_1.cells room_1.slots (T.setTop (mkF m 329 #[.val (.int p1), .val (.int p2), .val (.long q3), .second, .val (.int p4), .val (.int p5), .val (.int x6), .val (.int x7), .val (.int x8), .val (.int x9), .val (.int x10), .val (.int x11), .val (.int x12), .val (.int x13), .val (.int x14), .val (.ref a15), .val (.int cc), .val (.int (EX (2 : Int32) x6 x9 x10 cc (EX (1 : Int32) x6 x7 x8 cc (0 : Int32)))), .unset, .unset] [])) → DoneW p e below s (fun v h L => v = some (.int 1) ∧ Fr n0 L) room_1.cells room_1.slots (T.setTop (mkF m 306 #[.val (.int p1), .val (.int p2), .val (.long q3), .second, .val (.int p4), .val (.int p5), .val (.int x6), .val (.int x7), .val (.int x8), .val (.int x9), .val (.int x10), .val (.int x11), .val (.int x12), .val (.int x13), .val (.int x14), .val (.ref a15), .val (.int cc), .val (.int (EX (1 : Int32) x6 x7 x8 cc (0 : Int32))), .unset, .unset] [])) := by
    intro hJ
    show DoneW p e below s _ _ _ (T.setTop (mkF m 306 #[.val (.int p1), .val (.int p2), .val (.long q3), .second, .val (.int p4), .val (.int p5), .val (.int x6), .val (.int x7), .val (.int x8), .val (.int x9), .val (.int x10), .val (.int x11), .val (.int x12), .val (.int x13), .val (.int x14), .val (.ref a15), .val (.int cc), .val (.int (EX (1 : Int32) x6 x7 x8 cc (0 : Int32))), .unset, .unset] []))
    refine DoneW.step (fun t k => XS.iload X0.here hx rfl (hb hby at_306) rfl k) ?_
    show DoneW p e below s _ _ _ (T.setTop (mkF m 308 #[.val (.int p1), .val (.int p2), .val (.long q3), .second, .val (.int p4), .val (.int p5), .val (.int x6), .val (.int x7), .val (.int x8), .val (.int x9), .val (.int x10), .val (.int x11), .val (.int x12), .val (.int x13), .val (.int x14), .val (.ref a15), .val (.int cc), .val (.int (EX (1 : Int32) x6 x7 x8 cc (0 : Int32))), .unset, .unset] [(.int x6)]))
    refine DoneW.step (fun t k => XS.iconst X0.here hx rfl (hb hby at_308) k) ?_
    show DoneW p e below s _ _ _ (T.setTop (mkF m 309 #[.val (.int p1), .val (.int p2), .val (.long q3), .second, .val (.int p4), .val (.int p5), .val (.int x6), .val (.int x7), .val (.int x8), .val (.int x9), .val (.int x10), .val (.int x11), .val (.int x12), .val (.int x13), .val (.int x14), .val (.ref a15), .val (.int cc), .val (.int (EX (1 : Int32) x6 x7 x8 cc (0 : Int32))), .unset, .unset] [(.int (2 : Int32)), (.int x6)]))
    by_cases c4 : x6 < (2 : Int32)
    · refine DoneW.step (fun t k => XS.icmpYes X0.here hx rfl (pc0 := 309) (pc' := 329) rfl (hb hby at_309) rfl (tlt c4).1 (by decide) (by decide) k) ?_
      show DoneW p e below s _ _ _ (T.setTop (mkF m 329 #[.val (.int p1), .val (.int p2), .val (.long q3), .second, .val (.int p4), .val (.int p5), .val (.int x6), .val (.int x7), .val (.int x8), .val (.int x9), .val (.int x10), .val (.int x11), .val (.int x12), .val (.int x13), .val (.int x14), .val (.ref a15), .val (.int cc), .val (.int (EX (1 : Int32) x6 x7 x8 cc (0 : Int32))), .unset, .unset] []))
      rw [show (EX (2 : Int32) x6 x9 x10 cc (EX (1 : Int32) x6 x7 x8 cc (0 : Int32))) = (EX (1 : Int32) x6 x7 x8 cc (0 : Int32)) from by unfold EX; rw [if_pos c4]] at hJ
      exact hJ
    · refine DoneW.step (fun t k => XS.icmpNo X0.here hx rfl (hb hby at_309) rfl (flt c4).1 k) ?_
      show DoneW p e below s _ _ _ (T.setTop (mkF m 312 #[.val (.int p1), .val (.int p2), .val (.long q3), .second, .val (.int p4), .val (.int p5), .val (.int x6), .val (.int x7), .val (.int x8), .val (.int x9), .val (.int x10), .val (.int x11), .val (.int x12), .val (.int x13), .val (.int x14), .val (.ref a15), .val (.int cc), .val (.int (EX (1 : Int32) x6 x7 x8 cc (0 : Int32))), .unset, .unset] []))
      refine DoneW.step (fun t k => XS.iload X0.here hx rfl (hb hby at_312) rfl k) ?_
      show DoneW p e below s _ _ _ (T.setTop (mkF m 314 #[.val (.int p1), .val (.int p2), .val (.long q3), .second, .val (.int p4), .val (.int p5), .val (.int x6), .val (.int x7), .val (.int x8), .val (.int x9), .val (.int x10), .val (.int x11), .val (.int x12), .val (.int x13), .val (.int x14), .val (.ref a15), .val (.int cc), .val (.int (EX (1 : Int32) x6 x7 x8 cc (0 : Int32))), .unset, .unset] [(.int x9)]))
      refine DoneW.step (fun t k => XS.iload X0.here hx rfl (hb hby at_314) rfl k) ?_
      show DoneW p e below s _ _ _ (T.setTop (mkF m 316 #[.val (.int p1), .val (.int p2), .val (.long q3), .second, .val (.int p4), .val (.int p5), .val (.int x6), .val (.int x7), .val (.int x8), .val (.int x9), .val (.int x10), .val (.int x11), .val (.int x12), .val (.int x13), .val (.int x14), .val (.ref a15), .val (.int cc), .val (.int (EX (1 : Int32) x6 x7 x8 cc (0 : Int32))), .unset, .unset] [(.int cc), (.int x9)]))
      by_cases c5 : cc < x9
      · refine DoneW.step (fun t k => XS.icmpYes X0.here hx rfl (pc0 := 316) (pc' := 329) rfl (hb hby at_316) rfl (tlt c5).2.2.1 (by decide) (by decide) k) ?_
        show DoneW p e below s _ _ _ (T.setTop (mkF m 329 #[.val (.int p1), .val (.int p2), .val (.long q3), .second, .val (.int p4), .val (.int p5), .val (.int x6), .val (.int x7), .val (.int x8), .val (.int x9), .val (.int x10), .val (.int x11), .val (.int x12), .val (.int x13), .val (.int x14), .val (.ref a15), .val (.int cc), .val (.int (EX (1 : Int32) x6 x7 x8 cc (0 : Int32))), .unset, .unset] []))
        rw [show (EX (2 : Int32) x6 x9 x10 cc (EX (1 : Int32) x6 x7 x8 cc (0 : Int32))) = (EX (1 : Int32) x6 x7 x8 cc (0 : Int32)) from by unfold EX; rw [if_neg c4, if_pos c5]] at hJ
        exact hJ
      · refine DoneW.step (fun t k => XS.icmpNo X0.here hx rfl (hb hby at_316) rfl (flt c5).2.2.1 k) ?_
        show DoneW p e below s _ _ _ (T.setTop (mkF m 319 #[.val (.int p1), .val (.int p2), .val (.long q3), .second, .val (.int p4), .val (.int p5), .val (.int x6), .val (.int x7), .val (.int x8), .val (.int x9), .val (.int x10), .val (.int x11), .val (.int x12), .val (.int x13), .val (.int x14), .val (.ref a15), .val (.int cc), .val (.int (EX (1 : Int32) x6 x7 x8 cc (0 : Int32))), .unset, .unset] []))
        refine DoneW.step (fun t k => XS.iload X0.here hx rfl (hb hby at_319) rfl k) ?_
        show DoneW p e below s _ _ _ (T.setTop (mkF m 321 #[.val (.int p1), .val (.int p2), .val (.long q3), .second, .val (.int p4), .val (.int p5), .val (.int x6), .val (.int x7), .val (.int x8), .val (.int x9), .val (.int x10), .val (.int x11), .val (.int x12), .val (.int x13), .val (.int x14), .val (.ref a15), .val (.int cc), .val (.int (EX (1 : Int32) x6 x7 x8 cc (0 : Int32))), .unset, .unset] [(.int cc)]))
        refine DoneW.step (fun t k => XS.iload X0.here hx rfl (hb hby at_321) rfl k) ?_
        show DoneW p e below s _ _ _ (T.setTop (mkF m 323 #[.val (.int p1), .val (.int p2), .val (.long q3), .second, .val (.int p4), .val (.int p5), .val (.int x6), .val (.int x7), .val (.int x8), .val (.int x9), .val (.int x10), .val (.int x11), .val (.int x12), .val (.int x13), .val (.int x14), .val (.ref a15), .val (.int cc), .val (.int (EX (1 : Int32) x6 x7 x8 cc (0 : Int32))), .unset, .unset] [(.int x10), (.int cc)]))
        by_cases c6 : cc < x10
        · refine DoneW.step (fun t k => XS.icmpNo X0.here hx rfl (hb hby at_323) rfl (tlt c6).2.1 k) ?_
          show DoneW p e below s _ _ _ (T.setTop (mkF m 326 #[.val (.int p1), .val (.int p2), .val (.long q3), .second, .val (.int p4), .val (.int p5), .val (.int x6), .val (.int x7), .val (.int x8), .val (.int x9), .val (.int x10), .val (.int x11), .val (.int x12), .val (.int x13), .val (.int x14), .val (.ref a15), .val (.int cc), .val (.int (EX (1 : Int32) x6 x7 x8 cc (0 : Int32))), .unset, .unset] []))
          refine DoneW.step (fun t k => XS.iconst X0.here hx rfl (hb hby at_326) k) ?_
          show DoneW p e below s _ _ _ (T.setTop (mkF m 327 #[.val (.int p1), .val (.int p2), .val (.long q3), .second, .val (.int p4), .val (.int p5), .val (.int x6), .val (.int x7), .val (.int x8), .val (.int x9), .val (.int x10), .val (.int x11), .val (.int x12), .val (.int x13), .val (.int x14), .val (.ref a15), .val (.int cc), .val (.int (EX (1 : Int32) x6 x7 x8 cc (0 : Int32))), .unset, .unset] [(.int (1 : Int32))]))
          refine DoneW.step (fun t k => XS.istore X0.here hx rfl (hb hby at_327) rfl (l' := #[.val (.int p1), .val (.int p2), .val (.long q3), .second, .val (.int p4), .val (.int p5), .val (.int x6), .val (.int x7), .val (.int x8), .val (.int x9), .val (.int x10), .val (.int x11), .val (.int x12), .val (.int x13), .val (.int x14), .val (.ref a15), .val (.int cc), .val (.int (1 : Int32)), .unset, .unset]) rfl k) ?_
          show DoneW p e below s _ _ _ (T.setTop (mkF m 329 #[.val (.int p1), .val (.int p2), .val (.long q3), .second, .val (.int p4), .val (.int p5), .val (.int x6), .val (.int x7), .val (.int x8), .val (.int x9), .val (.int x10), .val (.int x11), .val (.int x12), .val (.int x13), .val (.int x14), .val (.ref a15), .val (.int cc), .val (.int (1 : Int32)), .unset, .unset] []))
          rw [show (EX (2 : Int32) x6 x9 x10 cc (EX (1 : Int32) x6 x7 x8 cc (0 : Int32))) = (1 : Int32) from by unfold EX; rw [if_neg c4, if_neg c5, if_pos c6]] at hJ
          exact hJ
        · refine DoneW.step (fun t k => XS.icmpYes X0.here hx rfl (pc0 := 323) (pc' := 329) rfl (hb hby at_323) rfl (flt c6).2.1 (by decide) (by decide) k) ?_
          show DoneW p e below s _ _ _ (T.setTop (mkF m 329 #[.val (.int p1), .val (.int p2), .val (.long q3), .second, .val (.int p4), .val (.int p5), .val (.int x6), .val (.int x7), .val (.int x8), .val (.int x9), .val (.int x10), .val (.int x11), .val (.int x12), .val (.int x13), .val (.int x14), .val (.ref a15), .val (.int cc), .val (.int (EX (1 : Int32) x6 x7 x8 cc (0 : Int32))), .unset, .unset] []))
          rw [show (EX (2 : Int32) x6 x9 x10 cc (EX (1 : Int32) x6 x7 x8 cc (0 : Int32))) = (EX (1 : Int32) x6 x7 x8 cc (0 : Int32)) from by unfold EX; rw [if_neg c4, if_neg c5, if_neg c6]] at hJ
          exact hJ
  refine J102 ?_
  show DoneW p e below s _ _ _ (T.setTop (mkF m 329 #[.val (.int p1), .val (.int p2), .val (.long q3), .second, .val (.int p4), .val (.int p5), .val (.int x6), .val (.int x7), .val (.int x8), .val (.int x9), .val (.int x10), .val (.int x11), .val (.int x12), .val (.int x13), .val (.int x14), .val (.ref a15), .val (.int cc), .val (.int (EX (2 : Int32) x6 x9 x10 cc (EX (1 : Int32) x6 x7 x8 cc (0 : Int32)))), .unset, .unset] []))
  have J103 : DoneW p e below s (fun v h L => v = some (.int 1) ∧ Fr n0 L) room_1.cells room_1.slots (T.setTop (mkF m 352 #[.val (.int p1), .val (.int p2), .val (.long q3), .second, .val (.int p4), .val (.int p5), .val (.int x6), .val (.int x7), .val (.int x8), .val (.int x9), .val (.int x10), .val (.int x11), .val (.int x12), .val (.int x13), .val (.int x14), .val (.ref a15), .val (.int cc), .val (.int (EX (3 : Int32) x6 x11 x12 cc (EX (2 : Int32) x6 x9 x10 cc (EX (1 : Int32) x6 x7 x8 cc (0 : Int32))))), .unset, .unset] [])) → DoneW p e below s (fun v h L => v = some (.int 1) ∧ Fr n0 L) room_1.cells room_1.slots (T.setTop (mkF m 329 #[.val (.int p1), .val (.int p2), .val (.long q3), .second, .val (.int p4), .val (.int p5), .val (.int x6), .val (.int x7), .val (.int x8), .val (.int x9), .val (.int x10), .val (.int x11), .val (.int x12), .val (.int x13), .val (.int x14), .val (.ref a15), .val (.int cc), .val (.int (EX (2 : Int32) x6 x9 x10 cc (EX (1 : Int32) x6 x7 x8 cc (0 : Int32)))), .unset, .unset] [])) := by
    intro hJ
    show DoneW p e below s _ _ _ (T.setTop (mkF m 329 #[.val (.int p1), .val (.int p2), .val (.long q3), .second, .val (.int p4), .val (.int p5), .val (.int x6), .val (.int x7), .val (.int x8), .val (.int x9), .val (.int x10), .val (.int x11), .val (.int x12), .val (.int x13), .val (.int x14), .val (.ref a15), .val (.int cc), .val (.int (EX (2 : Int32) x6 x9 x10 cc (EX (1 : Int32) x6 x7 x8 cc (0 : Int32)))), .unset, .unset] []))
    refine DoneW.step (fun t k => XS.iload X0.here hx rfl (hb hby at_329) rfl k) ?_
    show DoneW p e below s _ _ _ (T.setTop (mkF m 331 #[.val (.int p1), .val (.int p2), .val (.long q3), .second, .val (.int p4), .val (.int p5), .val (.int x6), .val (.int x7), .val (.int x8), .val (.int x9), .val (.int x10), .val (.int x11), .val (.int x12), .val (.int x13), .val (.int x14), .val (.ref a15), .val (.int cc), .val (.int (EX (2 : Int32) x6 x9 x10 cc (EX (1 : Int32) x6 x7 x8 cc (0 : Int32)))), .unset, .unset] [(.int x6)]))
    refine DoneW.step (fun t k => XS.iconst X0.here hx rfl (hb hby at_331) k) ?_
    show DoneW p e below s _ _ _ (T.setTop (mkF m 332 #[.val (.int p1), .val (.int p2), .val (.long q3), .second, .val (.int p4), .val (.int p5), .val (.int x6), .val (.int x7), .val (.int x8), .val (.int x9), .val (.int x10), .val (.int x11), .val (.int x12), .val (.int x13), .val (.int x14), .val (.ref a15), .val (.int cc), .val (.int (EX (2 : Int32) x6 x9 x10 cc (EX (1 : Int32) x6 x7 x8 cc (0 : Int32)))), .unset, .unset] [(.int (3 : Int32)), (.int x6)]))
    by_cases c7 : x6 < (3 : Int32)
    · refine DoneW.step (fun t k => XS.icmpYes X0.here hx rfl (pc0 := 332) (pc' := 352) rfl (hb hby at_332) rfl (tlt c7).1 (by decide) (by decide) k) ?_
      show DoneW p e below s _ _ _ (T.setTop (mkF m 352 #[.val (.int p1), .val (.int p2), .val (.long q3), .second, .val (.int p4), .val (.int p5), .val (.int x6), .val (.int x7), .val (.int x8), .val (.int x9), .val (.int x10), .val (.int x11), .val (.int x12), .val (.int x13), .val (.int x14), .val (.ref a15), .val (.int cc), .val (.int (EX (2 : Int32) x6 x9 x10 cc (EX (1 : Int32) x6 x7 x8 cc (0 : Int32)))), .unset, .unset] []))
      rw [show (EX (3 : Int32) x6 x11 x12 cc (EX (2 : Int32) x6 x9 x10 cc (EX (1 : Int32) x6 x7 x8 cc (0 : Int32)))) = (EX (2 : Int32) x6 x9 x10 cc (EX (1 : Int32) x6 x7 x8 cc (0 : Int32))) from by unfold EX; rw [if_pos c7]] at hJ
      exact hJ
    · refine DoneW.step (fun t k => XS.icmpNo X0.here hx rfl (hb hby at_332) rfl (flt c7).1 k) ?_
      show DoneW p e below s _ _ _ (T.setTop (mkF m 335 #[.val (.int p1), .val (.int p2), .val (.long q3), .second, .val (.int p4), .val (.int p5), .val (.int x6), .val (.int x7), .val (.int x8), .val (.int x9), .val (.int x10), .val (.int x11), .val (.int x12), .val (.int x13), .val (.int x14), .val (.ref a15), .val (.int cc), .val (.int (EX (2 : Int32) x6 x9 x10 cc (EX (1 : Int32) x6 x7 x8 cc (0 : Int32)))), .unset, .unset] []))
      refine DoneW.step (fun t k => XS.iload X0.here hx rfl (hb hby at_335) rfl k) ?_
      show DoneW p e below s _ _ _ (T.setTop (mkF m 337 #[.val (.int p1), .val (.int p2), .val (.long q3), .second, .val (.int p4), .val (.int p5), .val (.int x6), .val (.int x7), .val (.int x8), .val (.int x9), .val (.int x10), .val (.int x11), .val (.int x12), .val (.int x13), .val (.int x14), .val (.ref a15), .val (.int cc), .val (.int (EX (2 : Int32) x6 x9 x10 cc (EX (1 : Int32) x6 x7 x8 cc (0 : Int32)))), .unset, .unset] [(.int x11)]))
      refine DoneW.step (fun t k => XS.iload X0.here hx rfl (hb hby at_337) rfl k) ?_
      show DoneW p e below s _ _ _ (T.setTop (mkF m 339 #[.val (.int p1), .val (.int p2), .val (.long q3), .second, .val (.int p4), .val (.int p5), .val (.int x6), .val (.int x7), .val (.int x8), .val (.int x9), .val (.int x10), .val (.int x11), .val (.int x12), .val (.int x13), .val (.int x14), .val (.ref a15), .val (.int cc), .val (.int (EX (2 : Int32) x6 x9 x10 cc (EX (1 : Int32) x6 x7 x8 cc (0 : Int32)))), .unset, .unset] [(.int cc), (.int x11)]))
      by_cases c8 : cc < x11
      · refine DoneW.step (fun t k => XS.icmpYes X0.here hx rfl (pc0 := 339) (pc' := 352) rfl (hb hby at_339) rfl (tlt c8).2.2.1 (by decide) (by decide) k) ?_
        show DoneW p e below s _ _ _ (T.setTop (mkF m 352 #[.val (.int p1), .val (.int p2), .val (.long q3), .second, .val (.int p4), .val (.int p5), .val (.int x6), .val (.int x7), .val (.int x8), .val (.int x9), .val (.int x10), .val (.int x11), .val (.int x12), .val (.int x13), .val (.int x14), .val (.ref a15), .val (.int cc), .val (.int (EX (2 : Int32) x6 x9 x10 cc (EX (1 : Int32) x6 x7 x8 cc (0 : Int32)))), .unset, .unset] []))
        rw [show (EX (3 : Int32) x6 x11 x12 cc (EX (2 : Int32) x6 x9 x10 cc (EX (1 : Int32) x6 x7 x8 cc (0 : Int32)))) = (EX (2 : Int32) x6 x9 x10 cc (EX (1 : Int32) x6 x7 x8 cc (0 : Int32))) from by unfold EX; rw [if_neg c7, if_pos c8]] at hJ
        exact hJ
      · refine DoneW.step (fun t k => XS.icmpNo X0.here hx rfl (hb hby at_339) rfl (flt c8).2.2.1 k) ?_
        show DoneW p e below s _ _ _ (T.setTop (mkF m 342 #[.val (.int p1), .val (.int p2), .val (.long q3), .second, .val (.int p4), .val (.int p5), .val (.int x6), .val (.int x7), .val (.int x8), .val (.int x9), .val (.int x10), .val (.int x11), .val (.int x12), .val (.int x13), .val (.int x14), .val (.ref a15), .val (.int cc), .val (.int (EX (2 : Int32) x6 x9 x10 cc (EX (1 : Int32) x6 x7 x8 cc (0 : Int32)))), .unset, .unset] []))
        refine DoneW.step (fun t k => XS.iload X0.here hx rfl (hb hby at_342) rfl k) ?_
        show DoneW p e below s _ _ _ (T.setTop (mkF m 344 #[.val (.int p1), .val (.int p2), .val (.long q3), .second, .val (.int p4), .val (.int p5), .val (.int x6), .val (.int x7), .val (.int x8), .val (.int x9), .val (.int x10), .val (.int x11), .val (.int x12), .val (.int x13), .val (.int x14), .val (.ref a15), .val (.int cc), .val (.int (EX (2 : Int32) x6 x9 x10 cc (EX (1 : Int32) x6 x7 x8 cc (0 : Int32)))), .unset, .unset] [(.int cc)]))
        refine DoneW.step (fun t k => XS.iload X0.here hx rfl (hb hby at_344) rfl k) ?_
        show DoneW p e below s _ _ _ (T.setTop (mkF m 346 #[.val (.int p1), .val (.int p2), .val (.long q3), .second, .val (.int p4), .val (.int p5), .val (.int x6), .val (.int x7), .val (.int x8), .val (.int x9), .val (.int x10), .val (.int x11), .val (.int x12), .val (.int x13), .val (.int x14), .val (.ref a15), .val (.int cc), .val (.int (EX (2 : Int32) x6 x9 x10 cc (EX (1 : Int32) x6 x7 x8 cc (0 : Int32)))), .unset, .unset] [(.int x12), (.int cc)]))
        by_cases c9 : cc < x12
        · refine DoneW.step (fun t k => XS.icmpNo X0.here hx rfl (hb hby at_346) rfl (tlt c9).2.1 k) ?_
          show DoneW p e below s _ _ _ (T.setTop (mkF m 349 #[.val (.int p1), .val (.int p2), .val (.long q3), .second, .val (.int p4), .val (.int p5), .val (.int x6), .val (.int x7), .val (.int x8), .val (.int x9), .val (.int x10), .val (.int x11), .val (.int x12), .val (.int x13), .val (.int x14), .val (.ref a15), .val (.int cc), .val (.int (EX (2 : Int32) x6 x9 x10 cc (EX (1 : Int32) x6 x7 x8 cc (0 : Int32)))), .unset, .unset] []))
          refine DoneW.step (fun t k => XS.iconst X0.here hx rfl (hb hby at_349) k) ?_
          show DoneW p e below s _ _ _ (T.setTop (mkF m 350 #[.val (.int p1), .val (.int p2), .val (.long q3), .second, .val (.int p4), .val (.int p5), .val (.int x6), .val (.int x7), .val (.int x8), .val (.int x9), .val (.int x10), .val (.int x11), .val (.int x12), .val (.int x13), .val (.int x14), .val (.ref a15), .val (.int cc), .val (.int (EX (2 : Int32) x6 x9 x10 cc (EX (1 : Int32) x6 x7 x8 cc (0 : Int32)))), .unset, .unset] [(.int (1 : Int32))]))
          refine DoneW.step (fun t k => XS.istore X0.here hx rfl (hb hby at_350) rfl (l' := #[.val (.int p1), .val (.int p2), .val (.long q3), .second, .val (.int p4), .val (.int p5), .val (.int x6), .val (.int x7), .val (.int x8), .val (.int x9), .val (.int x10), .val (.int x11), .val (.int x12), .val (.int x13), .val (.int x14), .val (.ref a15), .val (.int cc), .val (.int (1 : Int32)), .unset, .unset]) rfl k) ?_
          show DoneW p e below s _ _ _ (T.setTop (mkF m 352 #[.val (.int p1), .val (.int p2), .val (.long q3), .second, .val (.int p4), .val (.int p5), .val (.int x6), .val (.int x7), .val (.int x8), .val (.int x9), .val (.int x10), .val (.int x11), .val (.int x12), .val (.int x13), .val (.int x14), .val (.ref a15), .val (.int cc), .val (.int (1 : Int32)), .unset, .unset] []))
          rw [show (EX (3 : Int32) x6 x11 x12 cc (EX (2 : Int32) x6 x9 x10 cc (EX (1 : Int32) x6 x7 x8 cc (0 : Int32)))) = (1 : Int32) from by unfold EX; rw [if_neg c7, if_neg c8, if_pos c9]] at hJ
          exact hJ
        · refine DoneW.step (fun t k => XS.icmpYes X0.here hx rfl (pc0 := 346) (pc' := 352) rfl (hb hby at_346) rfl (flt c9).2.1 (by decide) (by decide) k) ?_
          show DoneW p e below s _ _ _ (T.setTop (mkF m 352 #[.val (.int p1), .val (.int p2), .val (.long q3), .second, .val (.int p4), .val (.int p5), .val (.int x6), .val (.int x7), .val (.int x8), .val (.int x9), .val (.int x10), .val (.int x11), .val (.int x12), .val (.int x13), .val (.int x14), .val (.ref a15), .val (.int cc), .val (.int (EX (2 : Int32) x6 x9 x10 cc (EX (1 : Int32) x6 x7 x8 cc (0 : Int32)))), .unset, .unset] []))
          rw [show (EX (3 : Int32) x6 x11 x12 cc (EX (2 : Int32) x6 x9 x10 cc (EX (1 : Int32) x6 x7 x8 cc (0 : Int32)))) = (EX (2 : Int32) x6 x9 x10 cc (EX (1 : Int32) x6 x7 x8 cc (0 : Int32))) from by unfold EX; rw [if_neg c7, if_neg c8, if_neg c9]] at hJ
          exact hJ
  refine J103 ?_
  show DoneW p e below s _ _ _ (T.setTop (mkF m 352 #[.val (.int p1), .val (.int p2), .val (.long q3), .second, .val (.int p4), .val (.int p5), .val (.int x6), .val (.int x7), .val (.int x8), .val (.int x9), .val (.int x10), .val (.int x11), .val (.int x12), .val (.int x13), .val (.int x14), .val (.ref a15), .val (.int cc), .val (.int (EX (3 : Int32) x6 x11 x12 cc (EX (2 : Int32) x6 x9 x10 cc (EX (1 : Int32) x6 x7 x8 cc (0 : Int32))))), .unset, .unset] []))
  have J104 : DoneW p e below s (fun v h L => v = some (.int 1) ∧ Fr n0 L) room_1.cells room_1.slots (T.setTop (mkF m 375 #[.val (.int p1), .val (.int p2), .val (.long q3), .second, .val (.int p4), .val (.int p5), .val (.int x6), .val (.int x7), .val (.int x8), .val (.int x9), .val (.int x10), .val (.int x11), .val (.int x12), .val (.int x13), .val (.int x14), .val (.ref a15), .val (.int cc), .val (.int (EX (4 : Int32) x6 x13 x14 cc (EX (3 : Int32) x6 x11 x12 cc (EX (2 : Int32) x6 x9 x10 cc (EX (1 : Int32) x6 x7 x8 cc (0 : Int32)))))), .unset, .unset] [])) → DoneW p e below s (fun v h L => v = some (.int 1) ∧ Fr n0 L) room_1.cells room_1.slots (T.setTop (mkF m 352 #[.val (.int p1), .val (.int p2), .val (.long q3), .second, .val (.int p4), .val (.int p5), .val (.int x6), .val (.int x7), .val (.int x8), .val (.int x9), .val (.int x10), .val (.int x11), .val (.int x12), .val (.int x13), .val (.int x14), .val (.ref a15), .val (.int cc), .val (.int (EX (3 : Int32) x6 x11 x12 cc (EX (2 : Int32) x6 x9 x10 cc (EX (1 : Int32) x6 x7 x8 cc (0 : Int32))))), .unset, .unset] [])) := by
    intro hJ
    show DoneW p e below s _ _ _ (T.setTop (mkF m 352 #[.val (.int p1), .val (.int p2), .val (.long q3), .second, .val (.int p4), .val (.int p5), .val (.int x6), .val (.int x7), .val (.int x8), .val (.int x9), .val (.int x10), .val (.int x11), .val (.int x12), .val (.int x13), .val (.int x14), .val (.ref a15), .val (.int cc), .val (.int (EX (3 : Int32) x6 x11 x12 cc (EX (2 : Int32) x6 x9 x10 cc (EX (1 : Int32) x6 x7 x8 cc (0 : Int32))))), .unset, .unset] []))
    refine DoneW.step (fun t k => XS.iload X0.here hx rfl (hb hby at_352) rfl k) ?_
    show DoneW p e below s _ _ _ (T.setTop (mkF m 354 #[.val (.int p1), .val (.int p2), .val (.long q3), .second, .val (.int p4), .val (.int p5), .val (.int x6), .val (.int x7), .val (.int x8), .val (.int x9), .val (.int x10), .val (.int x11), .val (.int x12), .val (.int x13), .val (.int x14), .val (.ref a15), .val (.int cc), .val (.int (EX (3 : Int32) x6 x11 x12 cc (EX (2 : Int32) x6 x9 x10 cc (EX (1 : Int32) x6 x7 x8 cc (0 : Int32))))), .unset, .unset] [(.int x6)]))
    refine DoneW.step (fun t k => XS.iconst X0.here hx rfl (hb hby at_354) k) ?_
    show DoneW p e below s _ _ _ (T.setTop (mkF m 355 #[.val (.int p1), .val (.int p2), .val (.long q3), .second, .val (.int p4), .val (.int p5), .val (.int x6), .val (.int x7), .val (.int x8), .val (.int x9), .val (.int x10), .val (.int x11), .val (.int x12), .val (.int x13), .val (.int x14), .val (.ref a15), .val (.int cc), .val (.int (EX (3 : Int32) x6 x11 x12 cc (EX (2 : Int32) x6 x9 x10 cc (EX (1 : Int32) x6 x7 x8 cc (0 : Int32))))), .unset, .unset] [(.int (4 : Int32)), (.int x6)]))
    by_cases c10 : x6 < (4 : Int32)
    · refine DoneW.step (fun t k => XS.icmpYes X0.here hx rfl (pc0 := 355) (pc' := 375) rfl (hb hby at_355) rfl (tlt c10).1 (by decide) (by decide) k) ?_
      show DoneW p e below s _ _ _ (T.setTop (mkF m 375 #[.val (.int p1), .val (.int p2), .val (.long q3), .second, .val (.int p4), .val (.int p5), .val (.int x6), .val (.int x7), .val (.int x8), .val (.int x9), .val (.int x10), .val (.int x11), .val (.int x12), .val (.int x13), .val (.int x14), .val (.ref a15), .val (.int cc), .val (.int (EX (3 : Int32) x6 x11 x12 cc (EX (2 : Int32) x6 x9 x10 cc (EX (1 : Int32) x6 x7 x8 cc (0 : Int32))))), .unset, .unset] []))
      rw [show (EX (4 : Int32) x6 x13 x14 cc (EX (3 : Int32) x6 x11 x12 cc (EX (2 : Int32) x6 x9 x10 cc (EX (1 : Int32) x6 x7 x8 cc (0 : Int32))))) = (EX (3 : Int32) x6 x11 x12 cc (EX (2 : Int32) x6 x9 x10 cc (EX (1 : Int32) x6 x7 x8 cc (0 : Int32)))) from by unfold EX; rw [if_pos c10]] at hJ
      exact hJ
    · refine DoneW.step (fun t k => XS.icmpNo X0.here hx rfl (hb hby at_355) rfl (flt c10).1 k) ?_
      show DoneW p e below s _ _ _ (T.setTop (mkF m 358 #[.val (.int p1), .val (.int p2), .val (.long q3), .second, .val (.int p4), .val (.int p5), .val (.int x6), .val (.int x7), .val (.int x8), .val (.int x9), .val (.int x10), .val (.int x11), .val (.int x12), .val (.int x13), .val (.int x14), .val (.ref a15), .val (.int cc), .val (.int (EX (3 : Int32) x6 x11 x12 cc (EX (2 : Int32) x6 x9 x10 cc (EX (1 : Int32) x6 x7 x8 cc (0 : Int32))))), .unset, .unset] []))
      refine DoneW.step (fun t k => XS.iload X0.here hx rfl (hb hby at_358) rfl k) ?_
      show DoneW p e below s _ _ _ (T.setTop (mkF m 360 #[.val (.int p1), .val (.int p2), .val (.long q3), .second, .val (.int p4), .val (.int p5), .val (.int x6), .val (.int x7), .val (.int x8), .val (.int x9), .val (.int x10), .val (.int x11), .val (.int x12), .val (.int x13), .val (.int x14), .val (.ref a15), .val (.int cc), .val (.int (EX (3 : Int32) x6 x11 x12 cc (EX (2 : Int32) x6 x9 x10 cc (EX (1 : Int32) x6 x7 x8 cc (0 : Int32))))), .unset, .unset] [(.int x13)]))
      refine DoneW.step (fun t k => XS.iload X0.here hx rfl (hb hby at_360) rfl k) ?_
      show DoneW p e below s _ _ _ (T.setTop (mkF m 362 #[.val (.int p1), .val (.int p2), .val (.long q3), .second, .val (.int p4), .val (.int p5), .val (.int x6), .val (.int x7), .val (.int x8), .val (.int x9), .val (.int x10), .val (.int x11), .val (.int x12), .val (.int x13), .val (.int x14), .val (.ref a15), .val (.int cc), .val (.int (EX (3 : Int32) x6 x11 x12 cc (EX (2 : Int32) x6 x9 x10 cc (EX (1 : Int32) x6 x7 x8 cc (0 : Int32))))), .unset, .unset] [(.int cc), (.int x13)]))
      by_cases c11 : cc < x13
      · refine DoneW.step (fun t k => XS.icmpYes X0.here hx rfl (pc0 := 362) (pc' := 375) rfl (hb hby at_362) rfl (tlt c11).2.2.1 (by decide) (by decide) k) ?_
        show DoneW p e below s _ _ _ (T.setTop (mkF m 375 #[.val (.int p1), .val (.int p2), .val (.long q3), .second, .val (.int p4), .val (.int p5), .val (.int x6), .val (.int x7), .val (.int x8), .val (.int x9), .val (.int x10), .val (.int x11), .val (.int x12), .val (.int x13), .val (.int x14), .val (.ref a15), .val (.int cc), .val (.int (EX (3 : Int32) x6 x11 x12 cc (EX (2 : Int32) x6 x9 x10 cc (EX (1 : Int32) x6 x7 x8 cc (0 : Int32))))), .unset, .unset] []))
        rw [show (EX (4 : Int32) x6 x13 x14 cc (EX (3 : Int32) x6 x11 x12 cc (EX (2 : Int32) x6 x9 x10 cc (EX (1 : Int32) x6 x7 x8 cc (0 : Int32))))) = (EX (3 : Int32) x6 x11 x12 cc (EX (2 : Int32) x6 x9 x10 cc (EX (1 : Int32) x6 x7 x8 cc (0 : Int32)))) from by unfold EX; rw [if_neg c10, if_pos c11]] at hJ
        exact hJ
      · refine DoneW.step (fun t k => XS.icmpNo X0.here hx rfl (hb hby at_362) rfl (flt c11).2.2.1 k) ?_
        show DoneW p e below s _ _ _ (T.setTop (mkF m 365 #[.val (.int p1), .val (.int p2), .val (.long q3), .second, .val (.int p4), .val (.int p5), .val (.int x6), .val (.int x7), .val (.int x8), .val (.int x9), .val (.int x10), .val (.int x11), .val (.int x12), .val (.int x13), .val (.int x14), .val (.ref a15), .val (.int cc), .val (.int (EX (3 : Int32) x6 x11 x12 cc (EX (2 : Int32) x6 x9 x10 cc (EX (1 : Int32) x6 x7 x8 cc (0 : Int32))))), .unset, .unset] []))
        refine DoneW.step (fun t k => XS.iload X0.here hx rfl (hb hby at_365) rfl k) ?_
        show DoneW p e below s _ _ _ (T.setTop (mkF m 367 #[.val (.int p1), .val (.int p2), .val (.long q3), .second, .val (.int p4), .val (.int p5), .val (.int x6), .val (.int x7), .val (.int x8), .val (.int x9), .val (.int x10), .val (.int x11), .val (.int x12), .val (.int x13), .val (.int x14), .val (.ref a15), .val (.int cc), .val (.int (EX (3 : Int32) x6 x11 x12 cc (EX (2 : Int32) x6 x9 x10 cc (EX (1 : Int32) x6 x7 x8 cc (0 : Int32))))), .unset, .unset] [(.int cc)]))
        refine DoneW.step (fun t k => XS.iload X0.here hx rfl (hb hby at_367) rfl k) ?_
        show DoneW p e below s _ _ _ (T.setTop (mkF m 369 #[.val (.int p1), .val (.int p2), .val (.long q3), .second, .val (.int p4), .val (.int p5), .val (.int x6), .val (.int x7), .val (.int x8), .val (.int x9), .val (.int x10), .val (.int x11), .val (.int x12), .val (.int x13), .val (.int x14), .val (.ref a15), .val (.int cc), .val (.int (EX (3 : Int32) x6 x11 x12 cc (EX (2 : Int32) x6 x9 x10 cc (EX (1 : Int32) x6 x7 x8 cc (0 : Int32))))), .unset, .unset] [(.int x14), (.int cc)]))
        by_cases c12 : cc < x14
        · refine DoneW.step (fun t k => XS.icmpNo X0.here hx rfl (hb hby at_369) rfl (tlt c12).2.1 k) ?_
          show DoneW p e below s _ _ _ (T.setTop (mkF m 372 #[.val (.int p1), .val (.int p2), .val (.long q3), .second, .val (.int p4), .val (.int p5), .val (.int x6), .val (.int x7), .val (.int x8), .val (.int x9), .val (.int x10), .val (.int x11), .val (.int x12), .val (.int x13), .val (.int x14), .val (.ref a15), .val (.int cc), .val (.int (EX (3 : Int32) x6 x11 x12 cc (EX (2 : Int32) x6 x9 x10 cc (EX (1 : Int32) x6 x7 x8 cc (0 : Int32))))), .unset, .unset] []))
          refine DoneW.step (fun t k => XS.iconst X0.here hx rfl (hb hby at_372) k) ?_
          show DoneW p e below s _ _ _ (T.setTop (mkF m 373 #[.val (.int p1), .val (.int p2), .val (.long q3), .second, .val (.int p4), .val (.int p5), .val (.int x6), .val (.int x7), .val (.int x8), .val (.int x9), .val (.int x10), .val (.int x11), .val (.int x12), .val (.int x13), .val (.int x14), .val (.ref a15), .val (.int cc), .val (.int (EX (3 : Int32) x6 x11 x12 cc (EX (2 : Int32) x6 x9 x10 cc (EX (1 : Int32) x6 x7 x8 cc (0 : Int32))))), .unset, .unset] [(.int (1 : Int32))]))
          refine DoneW.step (fun t k => XS.istore X0.here hx rfl (hb hby at_373) rfl (l' := #[.val (.int p1), .val (.int p2), .val (.long q3), .second, .val (.int p4), .val (.int p5), .val (.int x6), .val (.int x7), .val (.int x8), .val (.int x9), .val (.int x10), .val (.int x11), .val (.int x12), .val (.int x13), .val (.int x14), .val (.ref a15), .val (.int cc), .val (.int (1 : Int32)), .unset, .unset]) rfl k) ?_
          show DoneW p e below s _ _ _ (T.setTop (mkF m 375 #[.val (.int p1), .val (.int p2), .val (.long q3), .second, .val (.int p4), .val (.int p5), .val (.int x6), .val (.int x7), .val (.int x8), .val (.int x9), .val (.int x10), .val (.int x11), .val (.int x12), .val (.int x13), .val (.int x14), .val (.ref a15), .val (.int cc), .val (.int (1 : Int32)), .unset, .unset] []))
          rw [show (EX (4 : Int32) x6 x13 x14 cc (EX (3 : Int32) x6 x11 x12 cc (EX (2 : Int32) x6 x9 x10 cc (EX (1 : Int32) x6 x7 x8 cc (0 : Int32))))) = (1 : Int32) from by unfold EX; rw [if_neg c10, if_neg c11, if_pos c12]] at hJ
          exact hJ
        · refine DoneW.step (fun t k => XS.icmpYes X0.here hx rfl (pc0 := 369) (pc' := 375) rfl (hb hby at_369) rfl (flt c12).2.1 (by decide) (by decide) k) ?_
          show DoneW p e below s _ _ _ (T.setTop (mkF m 375 #[.val (.int p1), .val (.int p2), .val (.long q3), .second, .val (.int p4), .val (.int p5), .val (.int x6), .val (.int x7), .val (.int x8), .val (.int x9), .val (.int x10), .val (.int x11), .val (.int x12), .val (.int x13), .val (.int x14), .val (.ref a15), .val (.int cc), .val (.int (EX (3 : Int32) x6 x11 x12 cc (EX (2 : Int32) x6 x9 x10 cc (EX (1 : Int32) x6 x7 x8 cc (0 : Int32))))), .unset, .unset] []))
          rw [show (EX (4 : Int32) x6 x13 x14 cc (EX (3 : Int32) x6 x11 x12 cc (EX (2 : Int32) x6 x9 x10 cc (EX (1 : Int32) x6 x7 x8 cc (0 : Int32))))) = (EX (3 : Int32) x6 x11 x12 cc (EX (2 : Int32) x6 x9 x10 cc (EX (1 : Int32) x6 x7 x8 cc (0 : Int32)))) from by unfold EX; rw [if_neg c10, if_neg c11, if_neg c12]] at hJ
          exact hJ
  refine J104 ?_
  show DoneW p e below s _ _ _ (T.setTop (mkF m 375 #[.val (.int p1), .val (.int p2), .val (.long q3), .second, .val (.int p4), .val (.int p5), .val (.int x6), .val (.int x7), .val (.int x8), .val (.int x9), .val (.int x10), .val (.int x11), .val (.int x12), .val (.int x13), .val (.int x14), .val (.ref a15), .val (.int cc), .val (.int (EX (4 : Int32) x6 x13 x14 cc (EX (3 : Int32) x6 x11 x12 cc (EX (2 : Int32) x6 x9 x10 cc (EX (1 : Int32) x6 x7 x8 cc (0 : Int32)))))), .unset, .unset] []))
  exact blk375 p1 p2 q3 p4 p5 x6 x7 x8 x9 x10 x11 x12 x13 x14 a15 cc (EX (4 : Int32) x6 x13 x14 cc (EX (3 : Int32) x6 x11 x12 cc (EX (2 : Int32) x6 x9 x10 cc (EX (1 : Int32) x6 x7 x8 cc (0 : Int32))))) vs X0 hx hZ hw hby hml hown hlk hret hnm N0 Z0 e0 A15 (HC cc)
set_option maxRecDepth 65536 in
set_option maxHeartbeats 40000000 in
theorem blk253 {p : Program} {l : Launch} {e : Env} {s : State} {m : MethodId} {args : Array Value} {below : List Frame} {meth : Method} {c : Code} {T : State} {locs : List Loc} {Z : State} {a0 : Array Value} {h0 : Heap} {n0 : Nat} (p1 p2 : Int32) (q3 : Int64) (p4 p5 x6 x7 x8 x9 x10 x11 x12 x13 x14 : Int32) (a15 : Addr) (vs : List Value)
    (X0 : Stand p l e room_1 s m args below meth c T locs 1 8) (hx : p.tables.exec = Jvm.exec) (hZ : Z.Warmed39 s.vm) (hw : ∀ d ∈ tables_1, d.before a0 Z = true) (hby : c.code = code) (hml : c.maxLocals = 20) (hown : s.vm.findClass "com/example/ruled_ledger/ruledledger/model/CatchHandlerCoversCodeOfPinLaw" = some m.cls) (hlk : meth.locks = false) (hret : meth.sig.returnType = ret) (hnm : meth.name = "law") (N0 : Fr n0 locs) (Z0 : n0 ≤ h0.size) (e0 : T.heap = h0) (A15 : Ax Z h0 a15 .int vs) (HC : ∀ c : Int32, CovOK vs c (EE x6 x7 x8 x9 x10 x11 x12 x13 x14 c)) :
    DoneW p e below s (fun v h L => v = some (.int 1) ∧ Fr n0 L) room_1.cells room_1.slots (T.setTop (mkF m 253 #[.val (.int p1), .val (.int p2), .val (.long q3), .second, .val (.int p4), .val (.int p5), .val (.int x6), .val (.int x7), .val (.int x8), .val (.int x9), .val (.int x10), .val (.int x11), .val (.int x12), .val (.int x13), .val (.int x14), .val (.ref a15), .unset, .unset, .unset, .unset] [])) := by
  show DoneW p e below s _ _ _ (T.setTop (mkF m 253 #[.val (.int p1), .val (.int p2), .val (.long q3), .second, .val (.int p4), .val (.int p5), .val (.int x6), .val (.int x7), .val (.int x8), .val (.int x9), .val (.int x10), .val (.int x11), .val (.int x12), .val (.int x13), .val (.int x14), .val (.ref a15), .unset, .unset, .unset, .unset] []))
  refine DoneW.step (fun t k => XS.iload X0.here hx rfl (hb hby at_253) rfl k) ?_
  show DoneW p e below s _ _ _ (T.setTop (mkF m 255 #[.val (.int p1), .val (.int p2), .val (.long q3), .second, .val (.int p4), .val (.int p5), .val (.int x6), .val (.int x7), .val (.int x8), .val (.int x9), .val (.int x10), .val (.int x11), .val (.int x12), .val (.int x13), .val (.int x14), .val (.ref a15), .unset, .unset, .unset, .unset] [(.int p5)]))
  refine DoneW.step (fun t k => XS.iconst X0.here hx rfl (hb hby at_255) k) ?_
  show DoneW p e below s _ _ _ (T.setTop (mkF m 256 #[.val (.int p1), .val (.int p2), .val (.long q3), .second, .val (.int p4), .val (.int p5), .val (.int x6), .val (.int x7), .val (.int x8), .val (.int x9), .val (.int x10), .val (.int x11), .val (.int x12), .val (.int x13), .val (.int x14), .val (.ref a15), .unset, .unset, .unset, .unset] [(.int (1 : Int32)), (.int p5)]))
  refine DoneW.step (fun t k => XS.iand X0.here hx rfl (hb hby at_256) rfl k) ?_
  show DoneW p e below s _ _ _ (T.setTop (mkF m 257 #[.val (.int p1), .val (.int p2), .val (.long q3), .second, .val (.int p4), .val (.int p5), .val (.int x6), .val (.int x7), .val (.int x8), .val (.int x9), .val (.int x10), .val (.int x11), .val (.int x12), .val (.int x13), .val (.int x14), .val (.ref a15), .unset, .unset, .unset, .unset] [(.int (p5 &&& (1 : Int32)))]))
  by_cases c1 : (p5 &&& (1 : Int32)) = (0 : Int32)
  · refine DoneW.step (fun t k => XS.ifYes X0.here hx rfl (pc0 := 257) (pc' := 267) rfl (hb hby at_257) rfl ((if0 _ _).trans (teq c1).1) (by decide) (by decide) k) ?_
    show DoneW p e below s _ _ _ (T.setTop (mkF m 267 #[.val (.int p1), .val (.int p2), .val (.long q3), .second, .val (.int p4), .val (.int p5), .val (.int x6), .val (.int x7), .val (.int x8), .val (.int x9), .val (.int x10), .val (.int x11), .val (.int x12), .val (.int x13), .val (.int x14), .val (.ref a15), .unset, .unset, .unset, .unset] []))
    refine DoneW.step (fun t k => XS.iload X0.here hx rfl (hb hby at_267) rfl k) ?_
    show DoneW p e below s _ _ _ (T.setTop (mkF m 269 #[.val (.int p1), .val (.int p2), .val (.long q3), .second, .val (.int p4), .val (.int p5), .val (.int x6), .val (.int x7), .val (.int x8), .val (.int x9), .val (.int x10), .val (.int x11), .val (.int x12), .val (.int x13), .val (.int x14), .val (.ref a15), .unset, .unset, .unset, .unset] [(.int x7)]))
    refine DoneW.step (fun t k => XS.iconst X0.here hx rfl (hb hby at_269) k) ?_
    show DoneW p e below s _ _ _ (T.setTop (mkF m 270 #[.val (.int p1), .val (.int p2), .val (.long q3), .second, .val (.int p4), .val (.int p5), .val (.int x6), .val (.int x7), .val (.int x8), .val (.int x9), .val (.int x10), .val (.int x11), .val (.int x12), .val (.int x13), .val (.int x14), .val (.ref a15), .unset, .unset, .unset, .unset] [(.int (2 : Int32)), (.int x7)]))
    refine DoneW.step (fun t k => XS.isub X0.here hx rfl (hb hby at_270) rfl k) ?_
    show DoneW p e below s _ _ _ (T.setTop (mkF m 271 #[.val (.int p1), .val (.int p2), .val (.long q3), .second, .val (.int p4), .val (.int p5), .val (.int x6), .val (.int x7), .val (.int x8), .val (.int x9), .val (.int x10), .val (.int x11), .val (.int x12), .val (.int x13), .val (.int x14), .val (.ref a15), .unset, .unset, .unset, .unset] [(.int (x7 - (2 : Int32)))]))
    refine DoneW.step (fun t k => XS.iload X0.here hx rfl (hb hby at_271) rfl k) ?_
    show DoneW p e below s _ _ _ (T.setTop (mkF m 273 #[.val (.int p1), .val (.int p2), .val (.long q3), .second, .val (.int p4), .val (.int p5), .val (.int x6), .val (.int x7), .val (.int x8), .val (.int x9), .val (.int x10), .val (.int x11), .val (.int x12), .val (.int x13), .val (.int x14), .val (.ref a15), .unset, .unset, .unset, .unset] [(.int p4), (.int (x7 - (2 : Int32)))]))
    refine DoneW.step (fun t k => XS.sipush X0.here hx rfl (hb hby at_273) k) ?_
    show DoneW p e below s _ _ _ (T.setTop (mkF m 276 #[.val (.int p1), .val (.int p2), .val (.long q3), .second, .val (.int p4), .val (.int p5), .val (.int x6), .val (.int x7), .val (.int x8), .val (.int x9), .val (.int x10), .val (.int x11), .val (.int x12), .val (.int x13), .val (.int x14), .val (.ref a15), .unset, .unset, .unset, .unset] [(.int (4095 : Int32)), (.int p4), (.int (x7 - (2 : Int32)))]))
    refine DoneW.step (fun t k => XS.iand X0.here hx rfl (hb hby at_276) rfl k) ?_
    show DoneW p e below s _ _ _ (T.setTop (mkF m 277 #[.val (.int p1), .val (.int p2), .val (.long q3), .second, .val (.int p4), .val (.int p5), .val (.int x6), .val (.int x7), .val (.int x8), .val (.int x9), .val (.int x10), .val (.int x11), .val (.int x12), .val (.int x13), .val (.int x14), .val (.ref a15), .unset, .unset, .unset, .unset] [(.int (p4 &&& (4095 : Int32))), (.int (x7 - (2 : Int32)))]))
    refine DoneW.step (fun t k => XS.iadd X0.here hx rfl (hb hby at_277) rfl k) ?_
    show DoneW p e below s _ _ _ (T.setTop (mkF m 278 #[.val (.int p1), .val (.int p2), .val (.long q3), .second, .val (.int p4), .val (.int p5), .val (.int x6), .val (.int x7), .val (.int x8), .val (.int x9), .val (.int x10), .val (.int x11), .val (.int x12), .val (.int x13), .val (.int x14), .val (.ref a15), .unset, .unset, .unset, .unset] [(.int ((x7 - (2 : Int32)) + (p4 &&& (4095 : Int32))))]))
    refine DoneW.step (fun t k => XS.istore X0.here hx rfl (hb hby at_278) rfl (l' := #[.val (.int p1), .val (.int p2), .val (.long q3), .second, .val (.int p4), .val (.int p5), .val (.int x6), .val (.int x7), .val (.int x8), .val (.int x9), .val (.int x10), .val (.int x11), .val (.int x12), .val (.int x13), .val (.int x14), .val (.ref a15), .val (.int ((x7 - (2 : Int32)) + (p4 &&& (4095 : Int32)))), .unset, .unset, .unset]) rfl k) ?_
    show DoneW p e below s _ _ _ (T.setTop (mkF m 280 #[.val (.int p1), .val (.int p2), .val (.long q3), .second, .val (.int p4), .val (.int p5), .val (.int x6), .val (.int x7), .val (.int x8), .val (.int x9), .val (.int x10), .val (.int x11), .val (.int x12), .val (.int x13), .val (.int x14), .val (.ref a15), .val (.int ((x7 - (2 : Int32)) + (p4 &&& (4095 : Int32)))), .unset, .unset, .unset] []))
    exact blk280 p1 p2 q3 p4 p5 x6 x7 x8 x9 x10 x11 x12 x13 x14 a15 ((x7 - (2 : Int32)) + (p4 &&& (4095 : Int32))) vs X0 hx hZ hw hby hml hown hlk hret hnm N0 Z0 e0 A15 HC
  · refine DoneW.step (fun t k => XS.ifNo X0.here hx rfl (hb hby at_257) rfl ((if0 _ _).trans (feq c1).1) k) ?_
    show DoneW p e below s _ _ _ (T.setTop (mkF m 260 #[.val (.int p1), .val (.int p2), .val (.long q3), .second, .val (.int p4), .val (.int p5), .val (.int x6), .val (.int x7), .val (.int x8), .val (.int x9), .val (.int x10), .val (.int x11), .val (.int x12), .val (.int x13), .val (.int x14), .val (.ref a15), .unset, .unset, .unset, .unset] []))
    refine DoneW.step (fun t k => XS.iload X0.here hx rfl (hb hby at_260) rfl k) ?_
    show DoneW p e below s _ _ _ (T.setTop (mkF m 262 #[.val (.int p1), .val (.int p2), .val (.long q3), .second, .val (.int p4), .val (.int p5), .val (.int x6), .val (.int x7), .val (.int x8), .val (.int x9), .val (.int x10), .val (.int x11), .val (.int x12), .val (.int x13), .val (.int x14), .val (.ref a15), .unset, .unset, .unset, .unset] [(.int p4)]))
    refine DoneW.step (fun t k => XS.istore X0.here hx rfl (hb hby at_262) rfl (l' := #[.val (.int p1), .val (.int p2), .val (.long q3), .second, .val (.int p4), .val (.int p5), .val (.int x6), .val (.int x7), .val (.int x8), .val (.int x9), .val (.int x10), .val (.int x11), .val (.int x12), .val (.int x13), .val (.int x14), .val (.ref a15), .val (.int p4), .unset, .unset, .unset]) rfl k) ?_
    show DoneW p e below s _ _ _ (T.setTop (mkF m 264 #[.val (.int p1), .val (.int p2), .val (.long q3), .second, .val (.int p4), .val (.int p5), .val (.int x6), .val (.int x7), .val (.int x8), .val (.int x9), .val (.int x10), .val (.int x11), .val (.int x12), .val (.int x13), .val (.int x14), .val (.ref a15), .val (.int p4), .unset, .unset, .unset] []))
    refine DoneW.step (fun t k => XS.goto X0.here hx rfl (pc0 := 264) (pc' := 280) rfl (hb hby at_264) (by decide) (by decide) k) ?_
    show DoneW p e below s _ _ _ (T.setTop (mkF m 280 #[.val (.int p1), .val (.int p2), .val (.long q3), .second, .val (.int p4), .val (.int p5), .val (.int x6), .val (.int x7), .val (.int x8), .val (.int x9), .val (.int x10), .val (.int x11), .val (.int x12), .val (.int x13), .val (.int x14), .val (.ref a15), .val (.int p4), .unset, .unset, .unset] []))
    exact blk280 p1 p2 q3 p4 p5 x6 x7 x8 x9 x10 x11 x12 x13 x14 a15 p4 vs X0 hx hZ hw hby hml hown hlk hret hnm N0 Z0 e0 A15 HC
def Chain (s0 e0 s1 e1 s2 e2 s3 e3 : Int32) : Prop := s0.toInt < e0.toInt ∧ e0.toInt < s1.toInt ∧ s1.toInt < e1.toInt ∧ e1.toInt < s2.toInt ∧ s2.toInt < e2.toInt ∧ e2.toInt < s3.toInt ∧ s3.toInt < e3.toInt
theorem own_cov0 {x6 s0 e0 s1 e1 s2 e2 s3 e3 : Int32} (h : x6 = (0 : Int32)) (C : Chain s0 e0 s1 e1 s2 e2 s3 e3) (c : Int32) : CovOK [] c (EE x6 s0 e0 s1 e1 s2 e2 s3 e3 c) := by
  subst h
  obtain ⟨g0, g1, g2, g3, g4, g5, g6⟩ := C
  refine Or.inl ⟨rfl, ?_⟩
  have n1 := show (0 : Int32) < (1 : Int32) by decide
  have n2 := show (0 : Int32) < (2 : Int32) by decide
  have n3 := show (0 : Int32) < (3 : Int32) by decide
  have n4 := show (0 : Int32) < (4 : Int32) by decide
  simp only [CV0, EE, EX, n1, n2, n3, n4, if_true, if_false]
theorem own_cov1 {x6 s0 e0 s1 e1 s2 e2 s3 e3 : Int32} (h : x6 = (1 : Int32)) (C : Chain s0 e0 s1 e1 s2 e2 s3 e3) (c : Int32) : CovOK [(.int s0), (.int e0)] c (EE x6 s0 e0 s1 e1 s2 e2 s3 e3 c) := by
  subst h
  obtain ⟨g0, g1, g2, g3, g4, g5, g6⟩ := C
  refine Or.inr (Or.inl ⟨s0, e0, rfl, ?_⟩)
  have n1 := show ¬ (1 : Int32) < (1 : Int32) by decide
  have n2 := show (1 : Int32) < (2 : Int32) by decide
  have n3 := show (1 : Int32) < (3 : Int32) by decide
  have n4 := show (1 : Int32) < (4 : Int32) by decide
  by_cases q0 : c.toInt < s0.toInt
  · have f0 : c < s0 := by rw [Int32.lt_iff_toInt_lt]; omega
    have f1 : c < e0 := by rw [Int32.lt_iff_toInt_lt]; omega
    simp only [CV1, EE, EX, n1, n2, n3, n4, f0, f1, if_true, if_false]
  ·
    by_cases q1 : c.toInt < e0.toInt
    · have f0 : ¬ c < s0 := by rw [Int32.lt_iff_toInt_lt]; omega
      have f1 : c < e0 := by rw [Int32.lt_iff_toInt_lt]; omega
      simp only [CV1, EE, EX, n1, n2, n3, n4, f0, f1, if_true, if_false]
    ·
      have f0 : ¬ c < s0 := by rw [Int32.lt_iff_toInt_lt]; omega
      have f1 : ¬ c < e0 := by rw [Int32.lt_iff_toInt_lt]; omega
      simp only [CV1, EE, EX, n1, n2, n3, n4, f0, f1, if_true, if_false]
theorem own_cov2 {x6 s0 e0 s1 e1 s2 e2 s3 e3 : Int32} (h : x6 = (2 : Int32)) (C : Chain s0 e0 s1 e1 s2 e2 s3 e3) (c : Int32) : CovOK [(.int s0), (.int e0), (.int s1), (.int e1)] c (EE x6 s0 e0 s1 e1 s2 e2 s3 e3 c) := by
  subst h
  obtain ⟨g0, g1, g2, g3, g4, g5, g6⟩ := C
  refine Or.inr (Or.inr (Or.inl ⟨s0, e0, s1, e1, rfl, ?_⟩))
  have n1 := show ¬ (2 : Int32) < (1 : Int32) by decide
  have n2 := show ¬ (2 : Int32) < (2 : Int32) by decide
  have n3 := show (2 : Int32) < (3 : Int32) by decide
  have n4 := show (2 : Int32) < (4 : Int32) by decide
  by_cases q0 : c.toInt < s0.toInt
  · have f0 : c < s0 := by rw [Int32.lt_iff_toInt_lt]; omega
    have f1 : c < e0 := by rw [Int32.lt_iff_toInt_lt]; omega
    have f2 : c < s1 := by rw [Int32.lt_iff_toInt_lt]; omega
    have f3 : c < e1 := by rw [Int32.lt_iff_toInt_lt]; omega
    simp only [CV2, EE, EX, n1, n2, n3, n4, f0, f1, f2, f3, if_true, if_false]
  ·
    by_cases q1 : c.toInt < e0.toInt
    · have f0 : ¬ c < s0 := by rw [Int32.lt_iff_toInt_lt]; omega
      have f1 : c < e0 := by rw [Int32.lt_iff_toInt_lt]; omega
      have f2 : c < s1 := by rw [Int32.lt_iff_toInt_lt]; omega
      have f3 : c < e1 := by rw [Int32.lt_iff_toInt_lt]; omega
      simp only [CV2, EE, EX, n1, n2, n3, n4, f0, f1, f2, f3, if_true, if_false]
    ·
      by_cases q2 : c.toInt < s1.toInt
      · have f0 : ¬ c < s0 := by rw [Int32.lt_iff_toInt_lt]; omega
        have f1 : ¬ c < e0 := by rw [Int32.lt_iff_toInt_lt]; omega
        have f2 : c < s1 := by rw [Int32.lt_iff_toInt_lt]; omega
        have f3 : c < e1 := by rw [Int32.lt_iff_toInt_lt]; omega
        simp only [CV2, EE, EX, n1, n2, n3, n4, f0, f1, f2, f3, if_true, if_false]
      ·
        by_cases q3 : c.toInt < e1.toInt
        · have f0 : ¬ c < s0 := by rw [Int32.lt_iff_toInt_lt]; omega
          have f1 : ¬ c < e0 := by rw [Int32.lt_iff_toInt_lt]; omega
          have f2 : ¬ c < s1 := by rw [Int32.lt_iff_toInt_lt]; omega
          have f3 : c < e1 := by rw [Int32.lt_iff_toInt_lt]; omega
          simp only [CV2, EE, EX, n1, n2, n3, n4, f0, f1, f2, f3, if_true, if_false]
        ·
          have f0 : ¬ c < s0 := by rw [Int32.lt_iff_toInt_lt]; omega
          have f1 : ¬ c < e0 := by rw [Int32.lt_iff_toInt_lt]; omega
          have f2 : ¬ c < s1 := by rw [Int32.lt_iff_toInt_lt]; omega
          have f3 : ¬ c < e1 := by rw [Int32.lt_iff_toInt_lt]; omega
          simp only [CV2, EE, EX, n1, n2, n3, n4, f0, f1, f2, f3, if_true, if_false]
theorem own_cov3 {x6 s0 e0 s1 e1 s2 e2 s3 e3 : Int32} (h : x6 = (3 : Int32)) (C : Chain s0 e0 s1 e1 s2 e2 s3 e3) (c : Int32) : CovOK [(.int s0), (.int e0), (.int s1), (.int e1), (.int s2), (.int e2)] c (EE x6 s0 e0 s1 e1 s2 e2 s3 e3 c) := by
  subst h
  obtain ⟨g0, g1, g2, g3, g4, g5, g6⟩ := C
  refine Or.inr (Or.inr (Or.inr (Or.inl ⟨s0, e0, s1, e1, s2, e2, rfl, ?_⟩)))
  have n1 := show ¬ (3 : Int32) < (1 : Int32) by decide
  have n2 := show ¬ (3 : Int32) < (2 : Int32) by decide
  have n3 := show ¬ (3 : Int32) < (3 : Int32) by decide
  have n4 := show (3 : Int32) < (4 : Int32) by decide
  by_cases q0 : c.toInt < s0.toInt
  · have f0 : c < s0 := by rw [Int32.lt_iff_toInt_lt]; omega
    have f1 : c < e0 := by rw [Int32.lt_iff_toInt_lt]; omega
    have f2 : c < s1 := by rw [Int32.lt_iff_toInt_lt]; omega
    have f3 : c < e1 := by rw [Int32.lt_iff_toInt_lt]; omega
    have f4 : c < s2 := by rw [Int32.lt_iff_toInt_lt]; omega
    have f5 : c < e2 := by rw [Int32.lt_iff_toInt_lt]; omega
    simp only [CV3, EE, EX, n1, n2, n3, n4, f0, f1, f2, f3, f4, f5, if_true, if_false]
  ·
    by_cases q1 : c.toInt < e0.toInt
    · have f0 : ¬ c < s0 := by rw [Int32.lt_iff_toInt_lt]; omega
      have f1 : c < e0 := by rw [Int32.lt_iff_toInt_lt]; omega
      have f2 : c < s1 := by rw [Int32.lt_iff_toInt_lt]; omega
      have f3 : c < e1 := by rw [Int32.lt_iff_toInt_lt]; omega
      have f4 : c < s2 := by rw [Int32.lt_iff_toInt_lt]; omega
      have f5 : c < e2 := by rw [Int32.lt_iff_toInt_lt]; omega
      simp only [CV3, EE, EX, n1, n2, n3, n4, f0, f1, f2, f3, f4, f5, if_true, if_false]
    ·
      by_cases q2 : c.toInt < s1.toInt
      · have f0 : ¬ c < s0 := by rw [Int32.lt_iff_toInt_lt]; omega
        have f1 : ¬ c < e0 := by rw [Int32.lt_iff_toInt_lt]; omega
        have f2 : c < s1 := by rw [Int32.lt_iff_toInt_lt]; omega
        have f3 : c < e1 := by rw [Int32.lt_iff_toInt_lt]; omega
        have f4 : c < s2 := by rw [Int32.lt_iff_toInt_lt]; omega
        have f5 : c < e2 := by rw [Int32.lt_iff_toInt_lt]; omega
        simp only [CV3, EE, EX, n1, n2, n3, n4, f0, f1, f2, f3, f4, f5, if_true, if_false]
      ·
        by_cases q3 : c.toInt < e1.toInt
        · have f0 : ¬ c < s0 := by rw [Int32.lt_iff_toInt_lt]; omega
          have f1 : ¬ c < e0 := by rw [Int32.lt_iff_toInt_lt]; omega
          have f2 : ¬ c < s1 := by rw [Int32.lt_iff_toInt_lt]; omega
          have f3 : c < e1 := by rw [Int32.lt_iff_toInt_lt]; omega
          have f4 : c < s2 := by rw [Int32.lt_iff_toInt_lt]; omega
          have f5 : c < e2 := by rw [Int32.lt_iff_toInt_lt]; omega
          simp only [CV3, EE, EX, n1, n2, n3, n4, f0, f1, f2, f3, f4, f5, if_true, if_false]
        ·
          by_cases q4 : c.toInt < s2.toInt
          · have f0 : ¬ c < s0 := by rw [Int32.lt_iff_toInt_lt]; omega
            have f1 : ¬ c < e0 := by rw [Int32.lt_iff_toInt_lt]; omega
            have f2 : ¬ c < s1 := by rw [Int32.lt_iff_toInt_lt]; omega
            have f3 : ¬ c < e1 := by rw [Int32.lt_iff_toInt_lt]; omega
            have f4 : c < s2 := by rw [Int32.lt_iff_toInt_lt]; omega
            have f5 : c < e2 := by rw [Int32.lt_iff_toInt_lt]; omega
            simp only [CV3, EE, EX, n1, n2, n3, n4, f0, f1, f2, f3, f4, f5, if_true, if_false]
          ·
            by_cases q5 : c.toInt < e2.toInt
            · have f0 : ¬ c < s0 := by rw [Int32.lt_iff_toInt_lt]; omega
              have f1 : ¬ c < e0 := by rw [Int32.lt_iff_toInt_lt]; omega
              have f2 : ¬ c < s1 := by rw [Int32.lt_iff_toInt_lt]; omega
              have f3 : ¬ c < e1 := by rw [Int32.lt_iff_toInt_lt]; omega
              have f4 : ¬ c < s2 := by rw [Int32.lt_iff_toInt_lt]; omega
              have f5 : c < e2 := by rw [Int32.lt_iff_toInt_lt]; omega
              simp only [CV3, EE, EX, n1, n2, n3, n4, f0, f1, f2, f3, f4, f5, if_true, if_false]
            ·
              have f0 : ¬ c < s0 := by rw [Int32.lt_iff_toInt_lt]; omega
              have f1 : ¬ c < e0 := by rw [Int32.lt_iff_toInt_lt]; omega
              have f2 : ¬ c < s1 := by rw [Int32.lt_iff_toInt_lt]; omega
              have f3 : ¬ c < e1 := by rw [Int32.lt_iff_toInt_lt]; omega
              have f4 : ¬ c < s2 := by rw [Int32.lt_iff_toInt_lt]; omega
              have f5 : ¬ c < e2 := by rw [Int32.lt_iff_toInt_lt]; omega
              simp only [CV3, EE, EX, n1, n2, n3, n4, f0, f1, f2, f3, f4, f5, if_true, if_false]
theorem own_cov4 {x6 s0 e0 s1 e1 s2 e2 s3 e3 : Int32} (h : x6 = (4 : Int32)) (C : Chain s0 e0 s1 e1 s2 e2 s3 e3) (c : Int32) : CovOK [(.int s0), (.int e0), (.int s1), (.int e1), (.int s2), (.int e2), (.int s3), (.int e3)] c (EE x6 s0 e0 s1 e1 s2 e2 s3 e3 c) := by
  subst h
  obtain ⟨g0, g1, g2, g3, g4, g5, g6⟩ := C
  refine Or.inr (Or.inr (Or.inr (Or.inr (⟨s0, e0, s1, e1, s2, e2, s3, e3, rfl, ?_⟩))))
  have n1 := show ¬ (4 : Int32) < (1 : Int32) by decide
  have n2 := show ¬ (4 : Int32) < (2 : Int32) by decide
  have n3 := show ¬ (4 : Int32) < (3 : Int32) by decide
  have n4 := show ¬ (4 : Int32) < (4 : Int32) by decide
  by_cases q0 : c.toInt < s0.toInt
  · have f0 : c < s0 := by rw [Int32.lt_iff_toInt_lt]; omega
    have f1 : c < e0 := by rw [Int32.lt_iff_toInt_lt]; omega
    have f2 : c < s1 := by rw [Int32.lt_iff_toInt_lt]; omega
    have f3 : c < e1 := by rw [Int32.lt_iff_toInt_lt]; omega
    have f4 : c < s2 := by rw [Int32.lt_iff_toInt_lt]; omega
    have f5 : c < e2 := by rw [Int32.lt_iff_toInt_lt]; omega
    have f6 : c < s3 := by rw [Int32.lt_iff_toInt_lt]; omega
    have f7 : c < e3 := by rw [Int32.lt_iff_toInt_lt]; omega
    simp only [CV4, EE, EX, n1, n2, n3, n4, f0, f1, f2, f3, f4, f5, f6, f7, if_true, if_false]
  ·
    by_cases q1 : c.toInt < e0.toInt
    · have f0 : ¬ c < s0 := by rw [Int32.lt_iff_toInt_lt]; omega
      have f1 : c < e0 := by rw [Int32.lt_iff_toInt_lt]; omega
      have f2 : c < s1 := by rw [Int32.lt_iff_toInt_lt]; omega
      have f3 : c < e1 := by rw [Int32.lt_iff_toInt_lt]; omega
      have f4 : c < s2 := by rw [Int32.lt_iff_toInt_lt]; omega
      have f5 : c < e2 := by rw [Int32.lt_iff_toInt_lt]; omega
      have f6 : c < s3 := by rw [Int32.lt_iff_toInt_lt]; omega
      have f7 : c < e3 := by rw [Int32.lt_iff_toInt_lt]; omega
      simp only [CV4, EE, EX, n1, n2, n3, n4, f0, f1, f2, f3, f4, f5, f6, f7, if_true, if_false]
    ·
      by_cases q2 : c.toInt < s1.toInt
      · have f0 : ¬ c < s0 := by rw [Int32.lt_iff_toInt_lt]; omega
        have f1 : ¬ c < e0 := by rw [Int32.lt_iff_toInt_lt]; omega
        have f2 : c < s1 := by rw [Int32.lt_iff_toInt_lt]; omega
        have f3 : c < e1 := by rw [Int32.lt_iff_toInt_lt]; omega
        have f4 : c < s2 := by rw [Int32.lt_iff_toInt_lt]; omega
        have f5 : c < e2 := by rw [Int32.lt_iff_toInt_lt]; omega
        have f6 : c < s3 := by rw [Int32.lt_iff_toInt_lt]; omega
        have f7 : c < e3 := by rw [Int32.lt_iff_toInt_lt]; omega
        simp only [CV4, EE, EX, n1, n2, n3, n4, f0, f1, f2, f3, f4, f5, f6, f7, if_true, if_false]
      ·
        by_cases q3 : c.toInt < e1.toInt
        · have f0 : ¬ c < s0 := by rw [Int32.lt_iff_toInt_lt]; omega
          have f1 : ¬ c < e0 := by rw [Int32.lt_iff_toInt_lt]; omega
          have f2 : ¬ c < s1 := by rw [Int32.lt_iff_toInt_lt]; omega
          have f3 : c < e1 := by rw [Int32.lt_iff_toInt_lt]; omega
          have f4 : c < s2 := by rw [Int32.lt_iff_toInt_lt]; omega
          have f5 : c < e2 := by rw [Int32.lt_iff_toInt_lt]; omega
          have f6 : c < s3 := by rw [Int32.lt_iff_toInt_lt]; omega
          have f7 : c < e3 := by rw [Int32.lt_iff_toInt_lt]; omega
          simp only [CV4, EE, EX, n1, n2, n3, n4, f0, f1, f2, f3, f4, f5, f6, f7, if_true, if_false]
        ·
          by_cases q4 : c.toInt < s2.toInt
          · have f0 : ¬ c < s0 := by rw [Int32.lt_iff_toInt_lt]; omega
            have f1 : ¬ c < e0 := by rw [Int32.lt_iff_toInt_lt]; omega
            have f2 : ¬ c < s1 := by rw [Int32.lt_iff_toInt_lt]; omega
            have f3 : ¬ c < e1 := by rw [Int32.lt_iff_toInt_lt]; omega
            have f4 : c < s2 := by rw [Int32.lt_iff_toInt_lt]; omega
            have f5 : c < e2 := by rw [Int32.lt_iff_toInt_lt]; omega
            have f6 : c < s3 := by rw [Int32.lt_iff_toInt_lt]; omega
            have f7 : c < e3 := by rw [Int32.lt_iff_toInt_lt]; omega
            simp only [CV4, EE, EX, n1, n2, n3, n4, f0, f1, f2, f3, f4, f5, f6, f7, if_true, if_false]
          ·
            by_cases q5 : c.toInt < e2.toInt
            · have f0 : ¬ c < s0 := by rw [Int32.lt_iff_toInt_lt]; omega
              have f1 : ¬ c < e0 := by rw [Int32.lt_iff_toInt_lt]; omega
              have f2 : ¬ c < s1 := by rw [Int32.lt_iff_toInt_lt]; omega
              have f3 : ¬ c < e1 := by rw [Int32.lt_iff_toInt_lt]; omega
              have f4 : ¬ c < s2 := by rw [Int32.lt_iff_toInt_lt]; omega
              have f5 : c < e2 := by rw [Int32.lt_iff_toInt_lt]; omega
              have f6 : c < s3 := by rw [Int32.lt_iff_toInt_lt]; omega
              have f7 : c < e3 := by rw [Int32.lt_iff_toInt_lt]; omega
              simp only [CV4, EE, EX, n1, n2, n3, n4, f0, f1, f2, f3, f4, f5, f6, f7, if_true, if_false]
            ·
              by_cases q6 : c.toInt < s3.toInt
              · have f0 : ¬ c < s0 := by rw [Int32.lt_iff_toInt_lt]; omega
                have f1 : ¬ c < e0 := by rw [Int32.lt_iff_toInt_lt]; omega
                have f2 : ¬ c < s1 := by rw [Int32.lt_iff_toInt_lt]; omega
                have f3 : ¬ c < e1 := by rw [Int32.lt_iff_toInt_lt]; omega
                have f4 : ¬ c < s2 := by rw [Int32.lt_iff_toInt_lt]; omega
                have f5 : ¬ c < e2 := by rw [Int32.lt_iff_toInt_lt]; omega
                have f6 : c < s3 := by rw [Int32.lt_iff_toInt_lt]; omega
                have f7 : c < e3 := by rw [Int32.lt_iff_toInt_lt]; omega
                simp only [CV4, EE, EX, n1, n2, n3, n4, f0, f1, f2, f3, f4, f5, f6, f7, if_true, if_false]
              ·
                by_cases q7 : c.toInt < e3.toInt
                · have f0 : ¬ c < s0 := by rw [Int32.lt_iff_toInt_lt]; omega
                  have f1 : ¬ c < e0 := by rw [Int32.lt_iff_toInt_lt]; omega
                  have f2 : ¬ c < s1 := by rw [Int32.lt_iff_toInt_lt]; omega
                  have f3 : ¬ c < e1 := by rw [Int32.lt_iff_toInt_lt]; omega
                  have f4 : ¬ c < s2 := by rw [Int32.lt_iff_toInt_lt]; omega
                  have f5 : ¬ c < e2 := by rw [Int32.lt_iff_toInt_lt]; omega
                  have f6 : ¬ c < s3 := by rw [Int32.lt_iff_toInt_lt]; omega
                  have f7 : c < e3 := by rw [Int32.lt_iff_toInt_lt]; omega
                  simp only [CV4, EE, EX, n1, n2, n3, n4, f0, f1, f2, f3, f4, f5, f6, f7, if_true, if_false]
                ·
                  have f0 : ¬ c < s0 := by rw [Int32.lt_iff_toInt_lt]; omega
                  have f1 : ¬ c < e0 := by rw [Int32.lt_iff_toInt_lt]; omega
                  have f2 : ¬ c < s1 := by rw [Int32.lt_iff_toInt_lt]; omega
                  have f3 : ¬ c < e1 := by rw [Int32.lt_iff_toInt_lt]; omega
                  have f4 : ¬ c < s2 := by rw [Int32.lt_iff_toInt_lt]; omega
                  have f5 : ¬ c < e2 := by rw [Int32.lt_iff_toInt_lt]; omega
                  have f6 : ¬ c < s3 := by rw [Int32.lt_iff_toInt_lt]; omega
                  have f7 : ¬ c < e3 := by rw [Int32.lt_iff_toInt_lt]; omega
                  simp only [CV4, EE, EX, n1, n2, n3, n4, f0, f1, f2, f3, f4, f5, f6, f7, if_true, if_false]
theorem own_f (q : Int64) (k : Int32) : 1 ≤ (F1 q k).toInt ∧ (F1 q k).toInt ≤ 512 := by
  unfold F1
  have m := c_maskL ((q.toUInt64 >>> (k &&& 0x3f).toInt64.toUInt64).toInt64) (511 : Int64) 9 (by decide) (by decide)
  have a := c_l2i ((q.toUInt64 >>> (k &&& 0x3f).toInt64.toUInt64).toInt64 &&& (511 : Int64))
  have b := c_iadd (((q.toUInt64 >>> (k &&& 0x3f).toInt64.toUInt64).toInt64 &&& (511 : Int64)).toInt32) (1 : Int32)
  have r1 := rng32 (((q.toUInt64 >>> (k &&& 0x3f).toInt64.toUInt64).toInt64 &&& (511 : Int64)).toInt32)
  have r2 := rng32 ((((q.toUInt64 >>> (k &&& 0x3f).toInt64.toUInt64).toInt64 &&& (511 : Int64)).toInt32) + (1 : Int32))
  have e1 : (1 : Int32).toInt = 1 := rfl
  omega
theorem own_next {x y : Int32} {q : Int64} {k : Int32} {lo hi : Int} (h : (x + (F1 q k)) = y) (h1 : lo ≤ x.toInt) (h2 : x.toInt ≤ hi) (h3 : -1000000000 ≤ lo) (h4 : hi ≤ 1000000000) : x.toInt < y.toInt ∧ lo ≤ y.toInt ∧ y.toInt ≤ hi + 512 := by
  have f := own_f q k
  have a := c_iadd x (F1 q k)
  have r := rng32 y
  rw [h] at a; omega
theorem own_chain {p1 s0 e0 s1 e1 s2 e2 s3 e3 : Int32} {q : Int64} (d0 : (p1 >>> ((3 : Int32) &&& 31)) = s0) (d1 : (s0 + (F1 q (0 : Int32))) = e0) (d2 : (e0 + (F1 q (9 : Int32))) = s1) (d3 : (s1 + (F1 q (18 : Int32))) = e1) (d4 : (e1 + (F1 q (27 : Int32))) = s2) (d5 : (s2 + (F1 q (36 : Int32))) = e2) (d6 : (e2 + (F1 q (45 : Int32))) = s3) (d7 : (s3 + (F1 q (54 : Int32))) = e3) : Chain s0 e0 s1 e1 s2 e2 s3 e3 := by
  have a := c_ishr p1 (3 : Int32) 3 (by decide)
  rw [d0] at a
  have r := rng32 p1
  have t0 : -268435456 ≤ s0.toInt ∧ s0.toInt ≤ 268435455 := by omega
  have t1 := own_next d1 t0.1 t0.2 (by decide) (by decide)
  have t2 := own_next d2 t1.2.1 t1.2.2 (by decide) (by decide)
  have t3 := own_next d3 t2.2.1 t2.2.2 (by decide) (by decide)
  have t4 := own_next d4 t3.2.1 t3.2.2 (by decide) (by decide)
  have t5 := own_next d5 t4.2.1 t4.2.2 (by decide) (by decide)
  have t6 := own_next d6 t5.2.1 t5.2.2 (by decide) (by decide)
  have t7 := own_next d7 t6.2.1 t6.2.2 (by decide) (by decide)
  exact ⟨t1.1, t2.1, t3.1, t4.1, t5.1, t6.1, t7.1⟩
theorem own_n {p x : Int32} (h : ((p &&& (2147483647 : Int32)) % (5 : Int32)) = x) (h0 : ¬ x = (0 : Int32)) (h1 : ¬ x = (1 : Int32)) (h2 : ¬ x = (2 : Int32)) (h3 : ¬ x = (3 : Int32)) : x = (4 : Int32) := by
  have m := c_mask p (2147483647 : Int32) 31 (by decide) (by decide)
  have r := (c_irem (p &&& (2147483647 : Int32)) (5 : Int32) 5 (by decide)).1 (by omega)
  rw [h] at r
  have k0 : ¬ x.toInt = 0 := fun q => h0 (Int32.toInt_inj.mp (by rw [q]; rfl))
  have k1 : ¬ x.toInt = 1 := fun q => h1 (Int32.toInt_inj.mp (by rw [q]; rfl))
  have k2 : ¬ x.toInt = 2 := fun q => h2 (Int32.toInt_inj.mp (by rw [q]; rfl))
  have k3 : ¬ x.toInt = 3 := fun q => h3 (Int32.toInt_inj.mp (by rw [q]; rfl))
  exact Int32.toInt_inj.mp (show x.toInt = 4 by omega)
theorem pn_0 : plainName "com/example/ruled_ledger/ruledledger/model/CatchHandlerCoversCodeOfPinLaw" = true := by first | (simp [plainName, overriddenIn]; done) | decide +kernel
theorem ef_0 (m : MethodId) (p1 : Int32) (p2 : Int32) (q3 : Int64) (p4 : Int32) (p5 : Int32) : entryFrame m #[(.int p1), (.int p2), (.long q3), (.int p4), (.int p5)] maxLocals = mkF m 0 #[.val (.int p1), .val (.int p2), .val (.long q3), .second, .val (.int p4), .val (.int p5), .unset, .unset, .unset, .unset, .unset, .unset, .unset, .unset, .unset, .unset, .unset, .unset, .unset, .unset] [] := by first | (simp [entryFrame, mkF, argsToLocals, Value.category, maxLocals]; done) | rfl
def Qrm0 (Z : State) (p1 : Int32) (p2 : Int32) (q3 : Int64) (p4 : Int32) (p5 : Int32) (h0 : Heap) (n0 : Nat) : Option Value → Heap → List Loc → Prop := fun v h L => v = some (.int 1) ∧ Fr n0 L
set_option maxRecDepth 65536 in
set_option maxHeartbeats 40000000 in
theorem rm0 (l : Launch) (Z : State) (a0 : Array Value) (hw : ∀ d ∈ tables_1, d.before a0 Z = true) (ws : List Jvm.Cond) (p1 : Int32) (p2 : Int32) (q3 : Int64) (p4 : Int32) (p5 : Int32) (h0 : Heap) (n0 : Nat) (Z0 : n0 ≤ h0.size) :
    MetFree l x (head1 (Jvm.Cond.code x code maxLocals ret :: ws) room_1) (fun a U => a = #[(.int p1), (.int p2), (.long q3), (.int p4), (.int p5)] ∧ Z.Warmed39 U.vm ∧ U.heap = h0) (fun _ _ _ _ _ => True) (fun _ U o U' => ∃ v L, o = .returned v ∧ Qrm0 Z p1 p2 q3 p4 p5 h0 n0 v U'.heap L ∧ ReturnedEndW U o U' L room_1.cells room_1.slots) := by
  refine MetFree.of_bodySF (plainFor_of_name pn_0) hisR ?_
  intro p e s m args below meth c s₁ Bd hml0 hP hK
  obtain ⟨rfl, hZ, hhp⟩ := hP
  have hx := Bd.exec
  have hby := Bd.bytes
  have hml : c.maxLocals = 20 := hml0
  have hown : s.vm.findClass "com/example/ruled_ledger/ruledledger/model/CatchHandlerCoversCodeOfPinLaw" = some m.cls := findClass_of_methodNamed Bd.named
  have hnm := (name_of_methodNamed Bd.named Bd.method).1
  have hlk : meth.locks = false := BodyLoose.notSynchronized Bd
  have hret := Bd.returns
  have X0 : Stand p l e room_1 s m #[(.int p1), (.int p2), (.long q3), (.int p4), (.int p5)] below meth c s₁ [] 0 0 := Stand.of_body Bd
  have e0 : s₁.heap = h0 := by rw [← hhp, Bd.state]; rfl
  have N0 := Fr.nil n0
  show DoneW p e below s (Qrm0 Z p1 p2 q3 p4 p5 h0 n0) room_1.cells room_1.slots (s₁.setTop (entryFrame m #[(.int p1), (.int p2), (.long q3), (.int p4), (.int p5)] maxLocals))
  refine DoneW.step (fun t k => castTop (ef_0 m p1 p2 q3 p4 p5) k) ?_
  show DoneW p e below s _ _ _ (s₁.setTop (mkF m 0 #[.val (.int p1), .val (.int p2), .val (.long q3), .second, .val (.int p4), .val (.int p5), .unset, .unset, .unset, .unset, .unset, .unset, .unset, .unset, .unset, .unset, .unset, .unset, .unset, .unset] []))
  refine DoneW.step (fun t k => XS.iloadN X0.here hx rfl (hb hby at_0) rfl k) ?_
  show DoneW p e below s _ _ _ (s₁.setTop (mkF m 1 #[.val (.int p1), .val (.int p2), .val (.long q3), .second, .val (.int p4), .val (.int p5), .unset, .unset, .unset, .unset, .unset, .unset, .unset, .unset, .unset, .unset, .unset, .unset, .unset, .unset] [(.int p2)]))
  refine DoneW.step (X0.ldcInt hx hown (mvT hZ (hw _ (List.mem_of_getElem? (i := 0) rfl))) (g := (mkF m 1 #[.val (.int p1), .val (.int p2), .val (.long q3), .second, .val (.int p4), .val (.int p5), .unset, .unset, .unset, .unset, .unset, .unset, .unset, .unset, .unset, .unset, .unset, .unset, .unset, .unset] [(.int p2)])) rfl (hb hby at_1)) ?_
  show DoneW p e below s _ _ _ (s₁.setTop (mkF m 3 #[.val (.int p1), .val (.int p2), .val (.long q3), .second, .val (.int p4), .val (.int p5), .unset, .unset, .unset, .unset, .unset, .unset, .unset, .unset, .unset, .unset, .unset, .unset, .unset, .unset] [(.int (2147483647 : Int32)), (.int p2)]))
  refine DoneW.step (fun t k => XS.iand X0.here hx rfl (hb hby at_3) rfl k) ?_
  show DoneW p e below s _ _ _ (s₁.setTop (mkF m 4 #[.val (.int p1), .val (.int p2), .val (.long q3), .second, .val (.int p4), .val (.int p5), .unset, .unset, .unset, .unset, .unset, .unset, .unset, .unset, .unset, .unset, .unset, .unset, .unset, .unset] [(.int (p2 &&& (2147483647 : Int32)))]))
  refine DoneW.step (fun t k => XS.iconst X0.here hx rfl (hb hby at_4) k) ?_
  show DoneW p e below s _ _ _ (s₁.setTop (mkF m 5 #[.val (.int p1), .val (.int p2), .val (.long q3), .second, .val (.int p4), .val (.int p5), .unset, .unset, .unset, .unset, .unset, .unset, .unset, .unset, .unset, .unset, .unset, .unset, .unset, .unset] [(.int (5 : Int32)), (.int (p2 &&& (2147483647 : Int32)))]))
  refine DoneW.step (fun t k => iremM X0 hx rfl (hb hby at_5) rfl (by decide) k) ?_
  show DoneW p e below s _ _ _ (s₁.setTop (mkF m 6 #[.val (.int p1), .val (.int p2), .val (.long q3), .second, .val (.int p4), .val (.int p5), .unset, .unset, .unset, .unset, .unset, .unset, .unset, .unset, .unset, .unset, .unset, .unset, .unset, .unset] [(.int ((p2 &&& (2147483647 : Int32)) % (5 : Int32)))]))
  generalize dx101 : ((p2 &&& (2147483647 : Int32)) % (5 : Int32)) = x101
  show DoneW p e below s _ _ _ (s₁.setTop (mkF m 6 #[.val (.int p1), .val (.int p2), .val (.long q3), .second, .val (.int p4), .val (.int p5), .unset, .unset, .unset, .unset, .unset, .unset, .unset, .unset, .unset, .unset, .unset, .unset, .unset, .unset] [(.int x101)]))
  refine DoneW.step (fun t k => XS.istore X0.here hx rfl (hb hby at_6) rfl (l' := #[.val (.int p1), .val (.int p2), .val (.long q3), .second, .val (.int p4), .val (.int p5), .val (.int x101), .unset, .unset, .unset, .unset, .unset, .unset, .unset, .unset, .unset, .unset, .unset, .unset, .unset]) rfl k) ?_
  show DoneW p e below s _ _ _ (s₁.setTop (mkF m 8 #[.val (.int p1), .val (.int p2), .val (.long q3), .second, .val (.int p4), .val (.int p5), .val (.int x101), .unset, .unset, .unset, .unset, .unset, .unset, .unset, .unset, .unset, .unset, .unset, .unset, .unset] []))
  refine DoneW.step (fun t k => XS.iloadN X0.here hx rfl (hb hby at_8) rfl k) ?_
  show DoneW p e below s _ _ _ (s₁.setTop (mkF m 9 #[.val (.int p1), .val (.int p2), .val (.long q3), .second, .val (.int p4), .val (.int p5), .val (.int x101), .unset, .unset, .unset, .unset, .unset, .unset, .unset, .unset, .unset, .unset, .unset, .unset, .unset] [(.int p1)]))
  refine DoneW.step (fun t k => XS.iconst X0.here hx rfl (hb hby at_9) k) ?_
  show DoneW p e below s _ _ _ (s₁.setTop (mkF m 10 #[.val (.int p1), .val (.int p2), .val (.long q3), .second, .val (.int p4), .val (.int p5), .val (.int x101), .unset, .unset, .unset, .unset, .unset, .unset, .unset, .unset, .unset, .unset, .unset, .unset, .unset] [(.int (3 : Int32)), (.int p1)]))
  refine DoneW.step (fun t k => XS.ishr X0.here hx rfl (hb hby at_10) rfl k) ?_
  show DoneW p e below s _ _ _ (s₁.setTop (mkF m 11 #[.val (.int p1), .val (.int p2), .val (.long q3), .second, .val (.int p4), .val (.int p5), .val (.int x101), .unset, .unset, .unset, .unset, .unset, .unset, .unset, .unset, .unset, .unset, .unset, .unset, .unset] [(.int (p1 >>> ((3 : Int32) &&& 31)))]))
  generalize dx102 : (p1 >>> ((3 : Int32) &&& 31)) = x102
  show DoneW p e below s _ _ _ (s₁.setTop (mkF m 11 #[.val (.int p1), .val (.int p2), .val (.long q3), .second, .val (.int p4), .val (.int p5), .val (.int x101), .unset, .unset, .unset, .unset, .unset, .unset, .unset, .unset, .unset, .unset, .unset, .unset, .unset] [(.int x102)]))
  refine DoneW.step (fun t k => XS.istore X0.here hx rfl (hb hby at_11) rfl (l' := #[.val (.int p1), .val (.int p2), .val (.long q3), .second, .val (.int p4), .val (.int p5), .val (.int x101), .val (.int x102), .unset, .unset, .unset, .unset, .unset, .unset, .unset, .unset, .unset, .unset, .unset, .unset]) rfl k) ?_
  show DoneW p e below s _ _ _ (s₁.setTop (mkF m 13 #[.val (.int p1), .val (.int p2), .val (.long q3), .second, .val (.int p4), .val (.int p5), .val (.int x101), .val (.int x102), .unset, .unset, .unset, .unset, .unset, .unset, .unset, .unset, .unset, .unset, .unset, .unset] []))
  refine DoneW.step (fun t k => XS.iload X0.here hx rfl (hb hby at_13) rfl k) ?_
  show DoneW p e below s _ _ _ (s₁.setTop (mkF m 15 #[.val (.int p1), .val (.int p2), .val (.long q3), .second, .val (.int p4), .val (.int p5), .val (.int x101), .val (.int x102), .unset, .unset, .unset, .unset, .unset, .unset, .unset, .unset, .unset, .unset, .unset, .unset] [(.int x102)]))
  refine DoneW.step (fun t k => XS.lloadN X0.here hx rfl (hb hby at_15) rfl k) ?_
  show DoneW p e below s _ _ _ (s₁.setTop (mkF m 16 #[.val (.int p1), .val (.int p2), .val (.long q3), .second, .val (.int p4), .val (.int p5), .val (.int x101), .val (.int x102), .unset, .unset, .unset, .unset, .unset, .unset, .unset, .unset, .unset, .unset, .unset, .unset] [(.long q3), (.int x102)]))
  refine DoneW.step (fun t k => XS.iconst X0.here hx rfl (hb hby at_16) k) ?_
  show DoneW p e below s _ _ _ (s₁.setTop (mkF m 17 #[.val (.int p1), .val (.int p2), .val (.long q3), .second, .val (.int p4), .val (.int p5), .val (.int x101), .val (.int x102), .unset, .unset, .unset, .unset, .unset, .unset, .unset, .unset, .unset, .unset, .unset, .unset] [(.int (0 : Int32)), (.long q3), (.int x102)]))
  obtain ⟨v103, _, ⟨T103, L103, k103, n103⟩, -, X103, ⟨Lc103, hQ103, l103, y103, z103⟩, st103⟩ := Jvm.LawKit.callS X0 hx (y := (⟨"com/example/ruled_ledger/ruledledger/model/CatchHandlerCoversCodeOfPinLaw", "f", "(JI)I"⟩ : MethodName)) hown (mvT hZ (hw _ (List.mem_of_getElem? (i := 1) rfl))) (mvT hZ (hw _ (List.mem_of_getElem? (i := 2) rfl))) (mvT hZ (hw _ (List.mem_of_getElem? (i := 3) rfl))) (mvT hZ (hw _ (List.mem_of_getElem? (i := 4) rfl))) (by decide) (backOf (W := 1) (rm1 l Z a0 hw [] q3 (0 : Int32) h0 n0 Z0 ) hZ (hw _ (List.mem_of_getElem? (i := 4) rfl)) (hw _ (List.mem_of_getElem? (i := 3) rfl)) (by decide) (by decide)) (g := (mkF m 17 #[.val (.int p1), .val (.int p2), .val (.long q3), .second, .val (.int p4), .val (.int p5), .val (.int x101), .val (.int x102), .unset, .unset, .unset, .unset, .unset, .unset, .unset, .unset, .unset, .unset, .unset, .unset] [(.int (0 : Int32)), (.long q3), (.int x102)])) rfl (by rw [hml]; rfl) (argsL := [(.long q3), (.int (0 : Int32))]) (rest := [(.int x102)]) (lenOf pd_2 rfl) rfl (by show 2 * 0 + _ ≤ _; exact Nat.le_of_eq rfl) (hb hby at_17) (fun _ _ => ⟨rfl, e0, (by decide : 0 + 0 ≤ _), (by decide : 0 + 0 ≤ _)⟩)
  dsimp only [Pt.U, Pt.locs, Pt.cells, Pt.slots] at X103 l103 y103 z103 st103 hQ103
  subst l103 y103 z103
  refine DoneW.step st103 ?_
  obtain ⟨rfl, N103q, e103⟩ := hQ103
  have N103 := Fr.app N0 N103q
  show DoneW p e below s _ _ _ (T103.setTop (mkF m 20 #[.val (.int p1), .val (.int p2), .val (.long q3), .second, .val (.int p4), .val (.int p5), .val (.int x101), .val (.int x102), .unset, .unset, .unset, .unset, .unset, .unset, .unset, .unset, .unset, .unset, .unset, .unset] [(.int (F1 q3 (0 : Int32))), (.int x102)]))
  refine DoneW.step (fun t k => XS.iadd X103.here hx rfl (hb hby at_20) rfl k) ?_
  show DoneW p e below s _ _ _ (T103.setTop (mkF m 21 #[.val (.int p1), .val (.int p2), .val (.long q3), .second, .val (.int p4), .val (.int p5), .val (.int x101), .val (.int x102), .unset, .unset, .unset, .unset, .unset, .unset, .unset, .unset, .unset, .unset, .unset, .unset] [(.int (x102 + (F1 q3 (0 : Int32))))]))
  generalize dx104 : (x102 + (F1 q3 (0 : Int32))) = x104
  show DoneW p e below s _ _ _ (T103.setTop (mkF m 21 #[.val (.int p1), .val (.int p2), .val (.long q3), .second, .val (.int p4), .val (.int p5), .val (.int x101), .val (.int x102), .unset, .unset, .unset, .unset, .unset, .unset, .unset, .unset, .unset, .unset, .unset, .unset] [(.int x104)]))
  refine DoneW.step (fun t k => XS.istore X103.here hx rfl (hb hby at_21) rfl (l' := #[.val (.int p1), .val (.int p2), .val (.long q3), .second, .val (.int p4), .val (.int p5), .val (.int x101), .val (.int x102), .val (.int x104), .unset, .unset, .unset, .unset, .unset, .unset, .unset, .unset, .unset, .unset, .unset]) rfl k) ?_
  show DoneW p e below s _ _ _ (T103.setTop (mkF m 23 #[.val (.int p1), .val (.int p2), .val (.long q3), .second, .val (.int p4), .val (.int p5), .val (.int x101), .val (.int x102), .val (.int x104), .unset, .unset, .unset, .unset, .unset, .unset, .unset, .unset, .unset, .unset, .unset] []))
  refine DoneW.step (fun t k => XS.iload X103.here hx rfl (hb hby at_23) rfl k) ?_
  show DoneW p e below s _ _ _ (T103.setTop (mkF m 25 #[.val (.int p1), .val (.int p2), .val (.long q3), .second, .val (.int p4), .val (.int p5), .val (.int x101), .val (.int x102), .val (.int x104), .unset, .unset, .unset, .unset, .unset, .unset, .unset, .unset, .unset, .unset, .unset] [(.int x104)]))
  refine DoneW.step (fun t k => XS.lloadN X103.here hx rfl (hb hby at_25) rfl k) ?_
  show DoneW p e below s _ _ _ (T103.setTop (mkF m 26 #[.val (.int p1), .val (.int p2), .val (.long q3), .second, .val (.int p4), .val (.int p5), .val (.int x101), .val (.int x102), .val (.int x104), .unset, .unset, .unset, .unset, .unset, .unset, .unset, .unset, .unset, .unset, .unset] [(.long q3), (.int x104)]))
  refine DoneW.step (fun t k => XS.bipush X103.here hx rfl (hb hby at_26) k) ?_
  show DoneW p e below s _ _ _ (T103.setTop (mkF m 28 #[.val (.int p1), .val (.int p2), .val (.long q3), .second, .val (.int p4), .val (.int p5), .val (.int x101), .val (.int x102), .val (.int x104), .unset, .unset, .unset, .unset, .unset, .unset, .unset, .unset, .unset, .unset, .unset] [(.int (9 : Int32)), (.long q3), (.int x104)]))
  obtain ⟨v105, _, ⟨T105, L105, k105, n105⟩, -, X105, ⟨Lc105, hQ105, l105, y105, z105⟩, st105⟩ := Jvm.LawKit.callS X103 hx (y := (⟨"com/example/ruled_ledger/ruledledger/model/CatchHandlerCoversCodeOfPinLaw", "f", "(JI)I"⟩ : MethodName)) hown (mvT hZ (hw _ (List.mem_of_getElem? (i := 1) rfl))) (mvT hZ (hw _ (List.mem_of_getElem? (i := 2) rfl))) (mvT hZ (hw _ (List.mem_of_getElem? (i := 3) rfl))) (mvT hZ (hw _ (List.mem_of_getElem? (i := 4) rfl))) (by decide) (backOf (W := 1) (rm1 l Z a0 hw [] q3 (9 : Int32) h0 n0 Z0 ) hZ (hw _ (List.mem_of_getElem? (i := 4) rfl)) (hw _ (List.mem_of_getElem? (i := 3) rfl)) (by decide) (by decide)) (g := (mkF m 28 #[.val (.int p1), .val (.int p2), .val (.long q3), .second, .val (.int p4), .val (.int p5), .val (.int x101), .val (.int x102), .val (.int x104), .unset, .unset, .unset, .unset, .unset, .unset, .unset, .unset, .unset, .unset, .unset] [(.int (9 : Int32)), (.long q3), (.int x104)])) rfl (by rw [hml]; rfl) (argsL := [(.long q3), (.int (9 : Int32))]) (rest := [(.int x104)]) (lenOf pd_2 rfl) rfl (by show 2 * 0 + _ ≤ _; exact Nat.le_of_eq rfl) (hb hby at_28) (fun _ _ => ⟨rfl, e103, (by decide : 0 + 0 ≤ _), (by decide : 0 + 0 ≤ _)⟩)
  dsimp only [Pt.U, Pt.locs, Pt.cells, Pt.slots] at X105 l105 y105 z105 st105 hQ105
  subst l105 y105 z105
  refine DoneW.step st105 ?_
  obtain ⟨rfl, N105q, e105⟩ := hQ105
  have N105 := Fr.app N103 N105q
  show DoneW p e below s _ _ _ (T105.setTop (mkF m 31 #[.val (.int p1), .val (.int p2), .val (.long q3), .second, .val (.int p4), .val (.int p5), .val (.int x101), .val (.int x102), .val (.int x104), .unset, .unset, .unset, .unset, .unset, .unset, .unset, .unset, .unset, .unset, .unset] [(.int (F1 q3 (9 : Int32))), (.int x104)]))
  refine DoneW.step (fun t k => XS.iadd X105.here hx rfl (hb hby at_31) rfl k) ?_
  show DoneW p e below s _ _ _ (T105.setTop (mkF m 32 #[.val (.int p1), .val (.int p2), .val (.long q3), .second, .val (.int p4), .val (.int p5), .val (.int x101), .val (.int x102), .val (.int x104), .unset, .unset, .unset, .unset, .unset, .unset, .unset, .unset, .unset, .unset, .unset] [(.int (x104 + (F1 q3 (9 : Int32))))]))
  generalize dx106 : (x104 + (F1 q3 (9 : Int32))) = x106
  show DoneW p e below s _ _ _ (T105.setTop (mkF m 32 #[.val (.int p1), .val (.int p2), .val (.long q3), .second, .val (.int p4), .val (.int p5), .val (.int x101), .val (.int x102), .val (.int x104), .unset, .unset, .unset, .unset, .unset, .unset, .unset, .unset, .unset, .unset, .unset] [(.int x106)]))
  refine DoneW.step (fun t k => XS.istore X105.here hx rfl (hb hby at_32) rfl (l' := #[.val (.int p1), .val (.int p2), .val (.long q3), .second, .val (.int p4), .val (.int p5), .val (.int x101), .val (.int x102), .val (.int x104), .val (.int x106), .unset, .unset, .unset, .unset, .unset, .unset, .unset, .unset, .unset, .unset]) rfl k) ?_
  show DoneW p e below s _ _ _ (T105.setTop (mkF m 34 #[.val (.int p1), .val (.int p2), .val (.long q3), .second, .val (.int p4), .val (.int p5), .val (.int x101), .val (.int x102), .val (.int x104), .val (.int x106), .unset, .unset, .unset, .unset, .unset, .unset, .unset, .unset, .unset, .unset] []))
  refine DoneW.step (fun t k => XS.iload X105.here hx rfl (hb hby at_34) rfl k) ?_
  show DoneW p e below s _ _ _ (T105.setTop (mkF m 36 #[.val (.int p1), .val (.int p2), .val (.long q3), .second, .val (.int p4), .val (.int p5), .val (.int x101), .val (.int x102), .val (.int x104), .val (.int x106), .unset, .unset, .unset, .unset, .unset, .unset, .unset, .unset, .unset, .unset] [(.int x106)]))
  refine DoneW.step (fun t k => XS.lloadN X105.here hx rfl (hb hby at_36) rfl k) ?_
  show DoneW p e below s _ _ _ (T105.setTop (mkF m 37 #[.val (.int p1), .val (.int p2), .val (.long q3), .second, .val (.int p4), .val (.int p5), .val (.int x101), .val (.int x102), .val (.int x104), .val (.int x106), .unset, .unset, .unset, .unset, .unset, .unset, .unset, .unset, .unset, .unset] [(.long q3), (.int x106)]))
  refine DoneW.step (fun t k => XS.bipush X105.here hx rfl (hb hby at_37) k) ?_
  show DoneW p e below s _ _ _ (T105.setTop (mkF m 39 #[.val (.int p1), .val (.int p2), .val (.long q3), .second, .val (.int p4), .val (.int p5), .val (.int x101), .val (.int x102), .val (.int x104), .val (.int x106), .unset, .unset, .unset, .unset, .unset, .unset, .unset, .unset, .unset, .unset] [(.int (18 : Int32)), (.long q3), (.int x106)]))
  obtain ⟨v107, _, ⟨T107, L107, k107, n107⟩, -, X107, ⟨Lc107, hQ107, l107, y107, z107⟩, st107⟩ := Jvm.LawKit.callS X105 hx (y := (⟨"com/example/ruled_ledger/ruledledger/model/CatchHandlerCoversCodeOfPinLaw", "f", "(JI)I"⟩ : MethodName)) hown (mvT hZ (hw _ (List.mem_of_getElem? (i := 1) rfl))) (mvT hZ (hw _ (List.mem_of_getElem? (i := 2) rfl))) (mvT hZ (hw _ (List.mem_of_getElem? (i := 3) rfl))) (mvT hZ (hw _ (List.mem_of_getElem? (i := 4) rfl))) (by decide) (backOf (W := 1) (rm1 l Z a0 hw [] q3 (18 : Int32) h0 n0 Z0 ) hZ (hw _ (List.mem_of_getElem? (i := 4) rfl)) (hw _ (List.mem_of_getElem? (i := 3) rfl)) (by decide) (by decide)) (g := (mkF m 39 #[.val (.int p1), .val (.int p2), .val (.long q3), .second, .val (.int p4), .val (.int p5), .val (.int x101), .val (.int x102), .val (.int x104), .val (.int x106), .unset, .unset, .unset, .unset, .unset, .unset, .unset, .unset, .unset, .unset] [(.int (18 : Int32)), (.long q3), (.int x106)])) rfl (by rw [hml]; rfl) (argsL := [(.long q3), (.int (18 : Int32))]) (rest := [(.int x106)]) (lenOf pd_2 rfl) rfl (by show 2 * 0 + _ ≤ _; exact Nat.le_of_eq rfl) (hb hby at_39) (fun _ _ => ⟨rfl, e105, (by decide : 0 + 0 ≤ _), (by decide : 0 + 0 ≤ _)⟩)
  dsimp only [Pt.U, Pt.locs, Pt.cells, Pt.slots] at X107 l107 y107 z107 st107 hQ107
  subst l107 y107 z107
  refine DoneW.step st107 ?_
  obtain ⟨rfl, N107q, e107⟩ := hQ107
  have N107 := Fr.app N105 N107q
  show DoneW p e below s _ _ _ (T107.setTop (mkF m 42 #[.val (.int p1), .val (.int p2), .val (.long q3), .second, .val (.int p4), .val (.int p5), .val (.int x101), .val (.int x102), .val (.int x104), .val (.int x106), .unset, .unset, .unset, .unset, .unset, .unset, .unset, .unset, .unset, .unset] [(.int (F1 q3 (18 : Int32))), (.int x106)]))
  refine DoneW.step (fun t k => XS.iadd X107.here hx rfl (hb hby at_42) rfl k) ?_
  show DoneW p e below s _ _ _ (T107.setTop (mkF m 43 #[.val (.int p1), .val (.int p2), .val (.long q3), .second, .val (.int p4), .val (.int p5), .val (.int x101), .val (.int x102), .val (.int x104), .val (.int x106), .unset, .unset, .unset, .unset, .unset, .unset, .unset, .unset, .unset, .unset] [(.int (x106 + (F1 q3 (18 : Int32))))]))
  generalize dx108 : (x106 + (F1 q3 (18 : Int32))) = x108
  show DoneW p e below s _ _ _ (T107.setTop (mkF m 43 #[.val (.int p1), .val (.int p2), .val (.long q3), .second, .val (.int p4), .val (.int p5), .val (.int x101), .val (.int x102), .val (.int x104), .val (.int x106), .unset, .unset, .unset, .unset, .unset, .unset, .unset, .unset, .unset, .unset] [(.int x108)]))
  refine DoneW.step (fun t k => XS.istore X107.here hx rfl (hb hby at_43) rfl (l' := #[.val (.int p1), .val (.int p2), .val (.long q3), .second, .val (.int p4), .val (.int p5), .val (.int x101), .val (.int x102), .val (.int x104), .val (.int x106), .val (.int x108), .unset, .unset, .unset, .unset, .unset, .unset, .unset, .unset, .unset]) rfl k) ?_
  show DoneW p e below s _ _ _ (T107.setTop (mkF m 45 #[.val (.int p1), .val (.int p2), .val (.long q3), .second, .val (.int p4), .val (.int p5), .val (.int x101), .val (.int x102), .val (.int x104), .val (.int x106), .val (.int x108), .unset, .unset, .unset, .unset, .unset, .unset, .unset, .unset, .unset] []))
  refine DoneW.step (fun t k => XS.iload X107.here hx rfl (hb hby at_45) rfl k) ?_
  show DoneW p e below s _ _ _ (T107.setTop (mkF m 47 #[.val (.int p1), .val (.int p2), .val (.long q3), .second, .val (.int p4), .val (.int p5), .val (.int x101), .val (.int x102), .val (.int x104), .val (.int x106), .val (.int x108), .unset, .unset, .unset, .unset, .unset, .unset, .unset, .unset, .unset] [(.int x108)]))
  refine DoneW.step (fun t k => XS.lloadN X107.here hx rfl (hb hby at_47) rfl k) ?_
  show DoneW p e below s _ _ _ (T107.setTop (mkF m 48 #[.val (.int p1), .val (.int p2), .val (.long q3), .second, .val (.int p4), .val (.int p5), .val (.int x101), .val (.int x102), .val (.int x104), .val (.int x106), .val (.int x108), .unset, .unset, .unset, .unset, .unset, .unset, .unset, .unset, .unset] [(.long q3), (.int x108)]))
  refine DoneW.step (fun t k => XS.bipush X107.here hx rfl (hb hby at_48) k) ?_
  show DoneW p e below s _ _ _ (T107.setTop (mkF m 50 #[.val (.int p1), .val (.int p2), .val (.long q3), .second, .val (.int p4), .val (.int p5), .val (.int x101), .val (.int x102), .val (.int x104), .val (.int x106), .val (.int x108), .unset, .unset, .unset, .unset, .unset, .unset, .unset, .unset, .unset] [(.int (27 : Int32)), (.long q3), (.int x108)]))
  obtain ⟨v109, _, ⟨T109, L109, k109, n109⟩, -, X109, ⟨Lc109, hQ109, l109, y109, z109⟩, st109⟩ := Jvm.LawKit.callS X107 hx (y := (⟨"com/example/ruled_ledger/ruledledger/model/CatchHandlerCoversCodeOfPinLaw", "f", "(JI)I"⟩ : MethodName)) hown (mvT hZ (hw _ (List.mem_of_getElem? (i := 1) rfl))) (mvT hZ (hw _ (List.mem_of_getElem? (i := 2) rfl))) (mvT hZ (hw _ (List.mem_of_getElem? (i := 3) rfl))) (mvT hZ (hw _ (List.mem_of_getElem? (i := 4) rfl))) (by decide) (backOf (W := 1) (rm1 l Z a0 hw [] q3 (27 : Int32) h0 n0 Z0 ) hZ (hw _ (List.mem_of_getElem? (i := 4) rfl)) (hw _ (List.mem_of_getElem? (i := 3) rfl)) (by decide) (by decide)) (g := (mkF m 50 #[.val (.int p1), .val (.int p2), .val (.long q3), .second, .val (.int p4), .val (.int p5), .val (.int x101), .val (.int x102), .val (.int x104), .val (.int x106), .val (.int x108), .unset, .unset, .unset, .unset, .unset, .unset, .unset, .unset, .unset] [(.int (27 : Int32)), (.long q3), (.int x108)])) rfl (by rw [hml]; rfl) (argsL := [(.long q3), (.int (27 : Int32))]) (rest := [(.int x108)]) (lenOf pd_2 rfl) rfl (by show 2 * 0 + _ ≤ _; exact Nat.le_of_eq rfl) (hb hby at_50) (fun _ _ => ⟨rfl, e107, (by decide : 0 + 0 ≤ _), (by decide : 0 + 0 ≤ _)⟩)
  dsimp only [Pt.U, Pt.locs, Pt.cells, Pt.slots] at X109 l109 y109 z109 st109 hQ109
  subst l109 y109 z109
  refine DoneW.step st109 ?_
  obtain ⟨rfl, N109q, e109⟩ := hQ109
  have N109 := Fr.app N107 N109q
  show DoneW p e below s _ _ _ (T109.setTop (mkF m 53 #[.val (.int p1), .val (.int p2), .val (.long q3), .second, .val (.int p4), .val (.int p5), .val (.int x101), .val (.int x102), .val (.int x104), .val (.int x106), .val (.int x108), .unset, .unset, .unset, .unset, .unset, .unset, .unset, .unset, .unset] [(.int (F1 q3 (27 : Int32))), (.int x108)]))
  refine DoneW.step (fun t k => XS.iadd X109.here hx rfl (hb hby at_53) rfl k) ?_
  show DoneW p e below s _ _ _ (T109.setTop (mkF m 54 #[.val (.int p1), .val (.int p2), .val (.long q3), .second, .val (.int p4), .val (.int p5), .val (.int x101), .val (.int x102), .val (.int x104), .val (.int x106), .val (.int x108), .unset, .unset, .unset, .unset, .unset, .unset, .unset, .unset, .unset] [(.int (x108 + (F1 q3 (27 : Int32))))]))
  generalize dx110 : (x108 + (F1 q3 (27 : Int32))) = x110
  show DoneW p e below s _ _ _ (T109.setTop (mkF m 54 #[.val (.int p1), .val (.int p2), .val (.long q3), .second, .val (.int p4), .val (.int p5), .val (.int x101), .val (.int x102), .val (.int x104), .val (.int x106), .val (.int x108), .unset, .unset, .unset, .unset, .unset, .unset, .unset, .unset, .unset] [(.int x110)]))
  refine DoneW.step (fun t k => XS.istore X109.here hx rfl (hb hby at_54) rfl (l' := #[.val (.int p1), .val (.int p2), .val (.long q3), .second, .val (.int p4), .val (.int p5), .val (.int x101), .val (.int x102), .val (.int x104), .val (.int x106), .val (.int x108), .val (.int x110), .unset, .unset, .unset, .unset, .unset, .unset, .unset, .unset]) rfl k) ?_
  show DoneW p e below s _ _ _ (T109.setTop (mkF m 56 #[.val (.int p1), .val (.int p2), .val (.long q3), .second, .val (.int p4), .val (.int p5), .val (.int x101), .val (.int x102), .val (.int x104), .val (.int x106), .val (.int x108), .val (.int x110), .unset, .unset, .unset, .unset, .unset, .unset, .unset, .unset] []))
  refine DoneW.step (fun t k => XS.iload X109.here hx rfl (hb hby at_56) rfl k) ?_
  show DoneW p e below s _ _ _ (T109.setTop (mkF m 58 #[.val (.int p1), .val (.int p2), .val (.long q3), .second, .val (.int p4), .val (.int p5), .val (.int x101), .val (.int x102), .val (.int x104), .val (.int x106), .val (.int x108), .val (.int x110), .unset, .unset, .unset, .unset, .unset, .unset, .unset, .unset] [(.int x110)]))
  refine DoneW.step (fun t k => XS.lloadN X109.here hx rfl (hb hby at_58) rfl k) ?_
  show DoneW p e below s _ _ _ (T109.setTop (mkF m 59 #[.val (.int p1), .val (.int p2), .val (.long q3), .second, .val (.int p4), .val (.int p5), .val (.int x101), .val (.int x102), .val (.int x104), .val (.int x106), .val (.int x108), .val (.int x110), .unset, .unset, .unset, .unset, .unset, .unset, .unset, .unset] [(.long q3), (.int x110)]))
  refine DoneW.step (fun t k => XS.bipush X109.here hx rfl (hb hby at_59) k) ?_
  show DoneW p e below s _ _ _ (T109.setTop (mkF m 61 #[.val (.int p1), .val (.int p2), .val (.long q3), .second, .val (.int p4), .val (.int p5), .val (.int x101), .val (.int x102), .val (.int x104), .val (.int x106), .val (.int x108), .val (.int x110), .unset, .unset, .unset, .unset, .unset, .unset, .unset, .unset] [(.int (36 : Int32)), (.long q3), (.int x110)]))
  obtain ⟨v111, _, ⟨T111, L111, k111, n111⟩, -, X111, ⟨Lc111, hQ111, l111, y111, z111⟩, st111⟩ := Jvm.LawKit.callS X109 hx (y := (⟨"com/example/ruled_ledger/ruledledger/model/CatchHandlerCoversCodeOfPinLaw", "f", "(JI)I"⟩ : MethodName)) hown (mvT hZ (hw _ (List.mem_of_getElem? (i := 1) rfl))) (mvT hZ (hw _ (List.mem_of_getElem? (i := 2) rfl))) (mvT hZ (hw _ (List.mem_of_getElem? (i := 3) rfl))) (mvT hZ (hw _ (List.mem_of_getElem? (i := 4) rfl))) (by decide) (backOf (W := 1) (rm1 l Z a0 hw [] q3 (36 : Int32) h0 n0 Z0 ) hZ (hw _ (List.mem_of_getElem? (i := 4) rfl)) (hw _ (List.mem_of_getElem? (i := 3) rfl)) (by decide) (by decide)) (g := (mkF m 61 #[.val (.int p1), .val (.int p2), .val (.long q3), .second, .val (.int p4), .val (.int p5), .val (.int x101), .val (.int x102), .val (.int x104), .val (.int x106), .val (.int x108), .val (.int x110), .unset, .unset, .unset, .unset, .unset, .unset, .unset, .unset] [(.int (36 : Int32)), (.long q3), (.int x110)])) rfl (by rw [hml]; rfl) (argsL := [(.long q3), (.int (36 : Int32))]) (rest := [(.int x110)]) (lenOf pd_2 rfl) rfl (by show 2 * 0 + _ ≤ _; exact Nat.le_of_eq rfl) (hb hby at_61) (fun _ _ => ⟨rfl, e109, (by decide : 0 + 0 ≤ _), (by decide : 0 + 0 ≤ _)⟩)
  dsimp only [Pt.U, Pt.locs, Pt.cells, Pt.slots] at X111 l111 y111 z111 st111 hQ111
  subst l111 y111 z111
  refine DoneW.step st111 ?_
  obtain ⟨rfl, N111q, e111⟩ := hQ111
  have N111 := Fr.app N109 N111q
  show DoneW p e below s _ _ _ (T111.setTop (mkF m 64 #[.val (.int p1), .val (.int p2), .val (.long q3), .second, .val (.int p4), .val (.int p5), .val (.int x101), .val (.int x102), .val (.int x104), .val (.int x106), .val (.int x108), .val (.int x110), .unset, .unset, .unset, .unset, .unset, .unset, .unset, .unset] [(.int (F1 q3 (36 : Int32))), (.int x110)]))
  refine DoneW.step (fun t k => XS.iadd X111.here hx rfl (hb hby at_64) rfl k) ?_
  show DoneW p e below s _ _ _ (T111.setTop (mkF m 65 #[.val (.int p1), .val (.int p2), .val (.long q3), .second, .val (.int p4), .val (.int p5), .val (.int x101), .val (.int x102), .val (.int x104), .val (.int x106), .val (.int x108), .val (.int x110), .unset, .unset, .unset, .unset, .unset, .unset, .unset, .unset] [(.int (x110 + (F1 q3 (36 : Int32))))]))
  generalize dx112 : (x110 + (F1 q3 (36 : Int32))) = x112
  show DoneW p e below s _ _ _ (T111.setTop (mkF m 65 #[.val (.int p1), .val (.int p2), .val (.long q3), .second, .val (.int p4), .val (.int p5), .val (.int x101), .val (.int x102), .val (.int x104), .val (.int x106), .val (.int x108), .val (.int x110), .unset, .unset, .unset, .unset, .unset, .unset, .unset, .unset] [(.int x112)]))
  refine DoneW.step (fun t k => XS.istore X111.here hx rfl (hb hby at_65) rfl (l' := #[.val (.int p1), .val (.int p2), .val (.long q3), .second, .val (.int p4), .val (.int p5), .val (.int x101), .val (.int x102), .val (.int x104), .val (.int x106), .val (.int x108), .val (.int x110), .val (.int x112), .unset, .unset, .unset, .unset, .unset, .unset, .unset]) rfl k) ?_
  show DoneW p e below s _ _ _ (T111.setTop (mkF m 67 #[.val (.int p1), .val (.int p2), .val (.long q3), .second, .val (.int p4), .val (.int p5), .val (.int x101), .val (.int x102), .val (.int x104), .val (.int x106), .val (.int x108), .val (.int x110), .val (.int x112), .unset, .unset, .unset, .unset, .unset, .unset, .unset] []))
  refine DoneW.step (fun t k => XS.iload X111.here hx rfl (hb hby at_67) rfl k) ?_
  show DoneW p e below s _ _ _ (T111.setTop (mkF m 69 #[.val (.int p1), .val (.int p2), .val (.long q3), .second, .val (.int p4), .val (.int p5), .val (.int x101), .val (.int x102), .val (.int x104), .val (.int x106), .val (.int x108), .val (.int x110), .val (.int x112), .unset, .unset, .unset, .unset, .unset, .unset, .unset] [(.int x112)]))
  refine DoneW.step (fun t k => XS.lloadN X111.here hx rfl (hb hby at_69) rfl k) ?_
  show DoneW p e below s _ _ _ (T111.setTop (mkF m 70 #[.val (.int p1), .val (.int p2), .val (.long q3), .second, .val (.int p4), .val (.int p5), .val (.int x101), .val (.int x102), .val (.int x104), .val (.int x106), .val (.int x108), .val (.int x110), .val (.int x112), .unset, .unset, .unset, .unset, .unset, .unset, .unset] [(.long q3), (.int x112)]))
  refine DoneW.step (fun t k => XS.bipush X111.here hx rfl (hb hby at_70) k) ?_
  show DoneW p e below s _ _ _ (T111.setTop (mkF m 72 #[.val (.int p1), .val (.int p2), .val (.long q3), .second, .val (.int p4), .val (.int p5), .val (.int x101), .val (.int x102), .val (.int x104), .val (.int x106), .val (.int x108), .val (.int x110), .val (.int x112), .unset, .unset, .unset, .unset, .unset, .unset, .unset] [(.int (45 : Int32)), (.long q3), (.int x112)]))
  obtain ⟨v113, _, ⟨T113, L113, k113, n113⟩, -, X113, ⟨Lc113, hQ113, l113, y113, z113⟩, st113⟩ := Jvm.LawKit.callS X111 hx (y := (⟨"com/example/ruled_ledger/ruledledger/model/CatchHandlerCoversCodeOfPinLaw", "f", "(JI)I"⟩ : MethodName)) hown (mvT hZ (hw _ (List.mem_of_getElem? (i := 1) rfl))) (mvT hZ (hw _ (List.mem_of_getElem? (i := 2) rfl))) (mvT hZ (hw _ (List.mem_of_getElem? (i := 3) rfl))) (mvT hZ (hw _ (List.mem_of_getElem? (i := 4) rfl))) (by decide) (backOf (W := 1) (rm1 l Z a0 hw [] q3 (45 : Int32) h0 n0 Z0 ) hZ (hw _ (List.mem_of_getElem? (i := 4) rfl)) (hw _ (List.mem_of_getElem? (i := 3) rfl)) (by decide) (by decide)) (g := (mkF m 72 #[.val (.int p1), .val (.int p2), .val (.long q3), .second, .val (.int p4), .val (.int p5), .val (.int x101), .val (.int x102), .val (.int x104), .val (.int x106), .val (.int x108), .val (.int x110), .val (.int x112), .unset, .unset, .unset, .unset, .unset, .unset, .unset] [(.int (45 : Int32)), (.long q3), (.int x112)])) rfl (by rw [hml]; rfl) (argsL := [(.long q3), (.int (45 : Int32))]) (rest := [(.int x112)]) (lenOf pd_2 rfl) rfl (by show 2 * 0 + _ ≤ _; exact Nat.le_of_eq rfl) (hb hby at_72) (fun _ _ => ⟨rfl, e111, (by decide : 0 + 0 ≤ _), (by decide : 0 + 0 ≤ _)⟩)
  dsimp only [Pt.U, Pt.locs, Pt.cells, Pt.slots] at X113 l113 y113 z113 st113 hQ113
  subst l113 y113 z113
  refine DoneW.step st113 ?_
  obtain ⟨rfl, N113q, e113⟩ := hQ113
  have N113 := Fr.app N111 N113q
  show DoneW p e below s _ _ _ (T113.setTop (mkF m 75 #[.val (.int p1), .val (.int p2), .val (.long q3), .second, .val (.int p4), .val (.int p5), .val (.int x101), .val (.int x102), .val (.int x104), .val (.int x106), .val (.int x108), .val (.int x110), .val (.int x112), .unset, .unset, .unset, .unset, .unset, .unset, .unset] [(.int (F1 q3 (45 : Int32))), (.int x112)]))
  refine DoneW.step (fun t k => XS.iadd X113.here hx rfl (hb hby at_75) rfl k) ?_
  show DoneW p e below s _ _ _ (T113.setTop (mkF m 76 #[.val (.int p1), .val (.int p2), .val (.long q3), .second, .val (.int p4), .val (.int p5), .val (.int x101), .val (.int x102), .val (.int x104), .val (.int x106), .val (.int x108), .val (.int x110), .val (.int x112), .unset, .unset, .unset, .unset, .unset, .unset, .unset] [(.int (x112 + (F1 q3 (45 : Int32))))]))
  generalize dx114 : (x112 + (F1 q3 (45 : Int32))) = x114
  show DoneW p e below s _ _ _ (T113.setTop (mkF m 76 #[.val (.int p1), .val (.int p2), .val (.long q3), .second, .val (.int p4), .val (.int p5), .val (.int x101), .val (.int x102), .val (.int x104), .val (.int x106), .val (.int x108), .val (.int x110), .val (.int x112), .unset, .unset, .unset, .unset, .unset, .unset, .unset] [(.int x114)]))
  refine DoneW.step (fun t k => XS.istore X113.here hx rfl (hb hby at_76) rfl (l' := #[.val (.int p1), .val (.int p2), .val (.long q3), .second, .val (.int p4), .val (.int p5), .val (.int x101), .val (.int x102), .val (.int x104), .val (.int x106), .val (.int x108), .val (.int x110), .val (.int x112), .val (.int x114), .unset, .unset, .unset, .unset, .unset, .unset]) rfl k) ?_
  show DoneW p e below s _ _ _ (T113.setTop (mkF m 78 #[.val (.int p1), .val (.int p2), .val (.long q3), .second, .val (.int p4), .val (.int p5), .val (.int x101), .val (.int x102), .val (.int x104), .val (.int x106), .val (.int x108), .val (.int x110), .val (.int x112), .val (.int x114), .unset, .unset, .unset, .unset, .unset, .unset] []))
  refine DoneW.step (fun t k => XS.iload X113.here hx rfl (hb hby at_78) rfl k) ?_
  show DoneW p e below s _ _ _ (T113.setTop (mkF m 80 #[.val (.int p1), .val (.int p2), .val (.long q3), .second, .val (.int p4), .val (.int p5), .val (.int x101), .val (.int x102), .val (.int x104), .val (.int x106), .val (.int x108), .val (.int x110), .val (.int x112), .val (.int x114), .unset, .unset, .unset, .unset, .unset, .unset] [(.int x114)]))
  refine DoneW.step (fun t k => XS.lloadN X113.here hx rfl (hb hby at_80) rfl k) ?_
  show DoneW p e below s _ _ _ (T113.setTop (mkF m 81 #[.val (.int p1), .val (.int p2), .val (.long q3), .second, .val (.int p4), .val (.int p5), .val (.int x101), .val (.int x102), .val (.int x104), .val (.int x106), .val (.int x108), .val (.int x110), .val (.int x112), .val (.int x114), .unset, .unset, .unset, .unset, .unset, .unset] [(.long q3), (.int x114)]))
  refine DoneW.step (fun t k => XS.bipush X113.here hx rfl (hb hby at_81) k) ?_
  show DoneW p e below s _ _ _ (T113.setTop (mkF m 83 #[.val (.int p1), .val (.int p2), .val (.long q3), .second, .val (.int p4), .val (.int p5), .val (.int x101), .val (.int x102), .val (.int x104), .val (.int x106), .val (.int x108), .val (.int x110), .val (.int x112), .val (.int x114), .unset, .unset, .unset, .unset, .unset, .unset] [(.int (54 : Int32)), (.long q3), (.int x114)]))
  obtain ⟨v115, _, ⟨T115, L115, k115, n115⟩, -, X115, ⟨Lc115, hQ115, l115, y115, z115⟩, st115⟩ := Jvm.LawKit.callS X113 hx (y := (⟨"com/example/ruled_ledger/ruledledger/model/CatchHandlerCoversCodeOfPinLaw", "f", "(JI)I"⟩ : MethodName)) hown (mvT hZ (hw _ (List.mem_of_getElem? (i := 1) rfl))) (mvT hZ (hw _ (List.mem_of_getElem? (i := 2) rfl))) (mvT hZ (hw _ (List.mem_of_getElem? (i := 3) rfl))) (mvT hZ (hw _ (List.mem_of_getElem? (i := 4) rfl))) (by decide) (backOf (W := 1) (rm1 l Z a0 hw [] q3 (54 : Int32) h0 n0 Z0 ) hZ (hw _ (List.mem_of_getElem? (i := 4) rfl)) (hw _ (List.mem_of_getElem? (i := 3) rfl)) (by decide) (by decide)) (g := (mkF m 83 #[.val (.int p1), .val (.int p2), .val (.long q3), .second, .val (.int p4), .val (.int p5), .val (.int x101), .val (.int x102), .val (.int x104), .val (.int x106), .val (.int x108), .val (.int x110), .val (.int x112), .val (.int x114), .unset, .unset, .unset, .unset, .unset, .unset] [(.int (54 : Int32)), (.long q3), (.int x114)])) rfl (by rw [hml]; rfl) (argsL := [(.long q3), (.int (54 : Int32))]) (rest := [(.int x114)]) (lenOf pd_2 rfl) rfl (by show 2 * 0 + _ ≤ _; exact Nat.le_of_eq rfl) (hb hby at_83) (fun _ _ => ⟨rfl, e113, (by decide : 0 + 0 ≤ _), (by decide : 0 + 0 ≤ _)⟩)
  dsimp only [Pt.U, Pt.locs, Pt.cells, Pt.slots] at X115 l115 y115 z115 st115 hQ115
  subst l115 y115 z115
  refine DoneW.step st115 ?_
  obtain ⟨rfl, N115q, e115⟩ := hQ115
  have N115 := Fr.app N113 N115q
  show DoneW p e below s _ _ _ (T115.setTop (mkF m 86 #[.val (.int p1), .val (.int p2), .val (.long q3), .second, .val (.int p4), .val (.int p5), .val (.int x101), .val (.int x102), .val (.int x104), .val (.int x106), .val (.int x108), .val (.int x110), .val (.int x112), .val (.int x114), .unset, .unset, .unset, .unset, .unset, .unset] [(.int (F1 q3 (54 : Int32))), (.int x114)]))
  refine DoneW.step (fun t k => XS.iadd X115.here hx rfl (hb hby at_86) rfl k) ?_
  show DoneW p e below s _ _ _ (T115.setTop (mkF m 87 #[.val (.int p1), .val (.int p2), .val (.long q3), .second, .val (.int p4), .val (.int p5), .val (.int x101), .val (.int x102), .val (.int x104), .val (.int x106), .val (.int x108), .val (.int x110), .val (.int x112), .val (.int x114), .unset, .unset, .unset, .unset, .unset, .unset] [(.int (x114 + (F1 q3 (54 : Int32))))]))
  generalize dx116 : (x114 + (F1 q3 (54 : Int32))) = x116
  show DoneW p e below s _ _ _ (T115.setTop (mkF m 87 #[.val (.int p1), .val (.int p2), .val (.long q3), .second, .val (.int p4), .val (.int p5), .val (.int x101), .val (.int x102), .val (.int x104), .val (.int x106), .val (.int x108), .val (.int x110), .val (.int x112), .val (.int x114), .unset, .unset, .unset, .unset, .unset, .unset] [(.int x116)]))
  refine DoneW.step (fun t k => XS.istore X115.here hx rfl (hb hby at_87) rfl (l' := #[.val (.int p1), .val (.int p2), .val (.long q3), .second, .val (.int p4), .val (.int p5), .val (.int x101), .val (.int x102), .val (.int x104), .val (.int x106), .val (.int x108), .val (.int x110), .val (.int x112), .val (.int x114), .val (.int x116), .unset, .unset, .unset, .unset, .unset]) rfl k) ?_
  show DoneW p e below s _ _ _ (T115.setTop (mkF m 89 #[.val (.int p1), .val (.int p2), .val (.long q3), .second, .val (.int p4), .val (.int p5), .val (.int x101), .val (.int x102), .val (.int x104), .val (.int x106), .val (.int x108), .val (.int x110), .val (.int x112), .val (.int x114), .val (.int x116), .unset, .unset, .unset, .unset, .unset] []))
  refine DoneW.step (fun t k => XS.iload X115.here hx rfl (hb hby at_89) rfl k) ?_
  show DoneW p e below s _ _ _ (T115.setTop (mkF m 91 #[.val (.int p1), .val (.int p2), .val (.long q3), .second, .val (.int p4), .val (.int p5), .val (.int x101), .val (.int x102), .val (.int x104), .val (.int x106), .val (.int x108), .val (.int x110), .val (.int x112), .val (.int x114), .val (.int x116), .unset, .unset, .unset, .unset, .unset] [(.int x101)]))
  by_cases c1 : x101 = (0 : Int32)
  · refine DoneW.step (fun t k => XS.ifNo X115.here hx rfl (hb hby at_91) rfl ((if0 _ _).trans (teq c1).2) k) ?_
    show DoneW p e below s _ _ _ (T115.setTop (mkF m 94 #[.val (.int p1), .val (.int p2), .val (.long q3), .second, .val (.int p4), .val (.int p5), .val (.int x101), .val (.int x102), .val (.int x104), .val (.int x106), .val (.int x108), .val (.int x110), .val (.int x112), .val (.int x114), .val (.int x116), .unset, .unset, .unset, .unset, .unset] []))
    refine DoneW.step (fun t k => XS.iconst X115.here hx rfl (hb hby at_94) k) ?_
    show DoneW p e below s _ _ _ (T115.setTop (mkF m 95 #[.val (.int p1), .val (.int p2), .val (.long q3), .second, .val (.int p4), .val (.int p5), .val (.int x101), .val (.int x102), .val (.int x104), .val (.int x106), .val (.int x108), .val (.int x110), .val (.int x112), .val (.int x114), .val (.int x116), .unset, .unset, .unset, .unset, .unset] [(.int (0 : Int32))]))
    obtain ⟨T117, h117, k117, X117, e117, E117, A117, B117, st117⟩ := newPE X115 hx hZ (hw _ (List.mem_of_getElem? (i := 6) rfl)) e115 (g := (mkF m 95 #[.val (.int p1), .val (.int p2), .val (.long q3), .second, .val (.int p4), .val (.int p5), .val (.int x101), .val (.int x102), .val (.int x104), .val (.int x106), .val (.int x108), .val (.int x110), .val (.int x112), .val (.int x114), .val (.int x116), .unset, .unset, .unset, .unset, .unset] [(.int (0 : Int32))])) rfl (hb hby at_95) rfl (by decide) (cap := 0) (by decide) (by decide) (by decide) (by decide) (ad := "[I") (by decide)
    obtain ⟨b117, gq117⟩ : ∃ z, z = h0.size := ⟨_, rfl⟩
    rw [← gq117] at A117 B117 st117
    have g_b117 : n0 ≤ b117 := Nat.le_trans Z0 (Nat.le_of_eq gq117.symm)
    have Z117 : n0 ≤ h117.size := Nat.le_trans Z0 E117.1
    have f118 : Ax Z h117 b117 .int [] := Ax.new (ty := .int) (i := 0) A117 (by decide)
    refine DoneW.step st117 ?_
    show DoneW p e below s _ _ _ (T117.setTop (mkF m 97 #[.val (.int p1), .val (.int p2), .val (.long q3), .second, .val (.int p4), .val (.int p5), .val (.int x101), .val (.int x102), .val (.int x104), .val (.int x106), .val (.int x108), .val (.int x110), .val (.int x112), .val (.int x114), .val (.int x116), .unset, .unset, .unset, .unset, .unset] [(.ref b117)]))
    refine DoneW.step (fun t k => XS.astore X117.here hx rfl (hb hby at_97) rfl rfl (l' := #[.val (.int p1), .val (.int p2), .val (.long q3), .second, .val (.int p4), .val (.int p5), .val (.int x101), .val (.int x102), .val (.int x104), .val (.int x106), .val (.int x108), .val (.int x110), .val (.int x112), .val (.int x114), .val (.int x116), .val (.ref b117), .unset, .unset, .unset, .unset]) rfl k) ?_
    show DoneW p e below s _ _ _ (T117.setTop (mkF m 99 #[.val (.int p1), .val (.int p2), .val (.long q3), .second, .val (.int p4), .val (.int p5), .val (.int x101), .val (.int x102), .val (.int x104), .val (.int x106), .val (.int x108), .val (.int x110), .val (.int x112), .val (.int x114), .val (.int x116), .val (.ref b117), .unset, .unset, .unset, .unset] []))
    refine DoneW.step (fun t k => XS.goto X117.here hx rfl (pc0 := 99) (pc' := 253) rfl (hb hby at_99) (by decide) (by decide) k) ?_
    show DoneW p e below s _ _ _ (T117.setTop (mkF m 253 #[.val (.int p1), .val (.int p2), .val (.long q3), .second, .val (.int p4), .val (.int p5), .val (.int x101), .val (.int x102), .val (.int x104), .val (.int x106), .val (.int x108), .val (.int x110), .val (.int x112), .val (.int x114), .val (.int x116), .val (.ref b117), .unset, .unset, .unset, .unset] []))
    exact blk253 p1 p2 q3 p4 p5 x101 x102 x104 x106 x108 x110 x112 x114 x116 b117 [] (X117.mono (by decide) (by decide)) hx hZ hw hby hml hown hlk hret hnm N115 Z117 e117 f118 (own_cov0 c1 (own_chain dx102 dx104 dx106 dx108 dx110 dx112 dx114 dx116))
  · refine DoneW.step (fun t k => XS.ifYes X115.here hx rfl (pc0 := 91) (pc' := 102) rfl (hb hby at_91) rfl ((if0 _ _).trans (feq c1).2) (by decide) (by decide) k) ?_
    show DoneW p e below s _ _ _ (T115.setTop (mkF m 102 #[.val (.int p1), .val (.int p2), .val (.long q3), .second, .val (.int p4), .val (.int p5), .val (.int x101), .val (.int x102), .val (.int x104), .val (.int x106), .val (.int x108), .val (.int x110), .val (.int x112), .val (.int x114), .val (.int x116), .unset, .unset, .unset, .unset, .unset] []))
    refine DoneW.step (fun t k => XS.iload X115.here hx rfl (hb hby at_102) rfl k) ?_
    show DoneW p e below s _ _ _ (T115.setTop (mkF m 104 #[.val (.int p1), .val (.int p2), .val (.long q3), .second, .val (.int p4), .val (.int p5), .val (.int x101), .val (.int x102), .val (.int x104), .val (.int x106), .val (.int x108), .val (.int x110), .val (.int x112), .val (.int x114), .val (.int x116), .unset, .unset, .unset, .unset, .unset] [(.int x101)]))
    refine DoneW.step (fun t k => XS.iconst X115.here hx rfl (hb hby at_104) k) ?_
    show DoneW p e below s _ _ _ (T115.setTop (mkF m 105 #[.val (.int p1), .val (.int p2), .val (.long q3), .second, .val (.int p4), .val (.int p5), .val (.int x101), .val (.int x102), .val (.int x104), .val (.int x106), .val (.int x108), .val (.int x110), .val (.int x112), .val (.int x114), .val (.int x116), .unset, .unset, .unset, .unset, .unset] [(.int (1 : Int32)), (.int x101)]))
    by_cases c2 : x101 = (1 : Int32)
    · refine DoneW.step (fun t k => XS.icmpNo X115.here hx rfl (hb hby at_105) rfl (teq c2).2 k) ?_
      show DoneW p e below s _ _ _ (T115.setTop (mkF m 108 #[.val (.int p1), .val (.int p2), .val (.long q3), .second, .val (.int p4), .val (.int p5), .val (.int x101), .val (.int x102), .val (.int x104), .val (.int x106), .val (.int x108), .val (.int x110), .val (.int x112), .val (.int x114), .val (.int x116), .unset, .unset, .unset, .unset, .unset] []))
      refine DoneW.step (fun t k => XS.iconst X115.here hx rfl (hb hby at_108) k) ?_
      show DoneW p e below s _ _ _ (T115.setTop (mkF m 109 #[.val (.int p1), .val (.int p2), .val (.long q3), .second, .val (.int p4), .val (.int p5), .val (.int x101), .val (.int x102), .val (.int x104), .val (.int x106), .val (.int x108), .val (.int x110), .val (.int x112), .val (.int x114), .val (.int x116), .unset, .unset, .unset, .unset, .unset] [(.int (2 : Int32))]))
      obtain ⟨T119, h119, k119, X119, e119, E119, A119, B119, st119⟩ := newPE X115 hx hZ (hw _ (List.mem_of_getElem? (i := 6) rfl)) e115 (g := (mkF m 109 #[.val (.int p1), .val (.int p2), .val (.long q3), .second, .val (.int p4), .val (.int p5), .val (.int x101), .val (.int x102), .val (.int x104), .val (.int x106), .val (.int x108), .val (.int x110), .val (.int x112), .val (.int x114), .val (.int x116), .unset, .unset, .unset, .unset, .unset] [(.int (2 : Int32))])) rfl (hb hby at_109) rfl (by decide) (cap := 2) (by decide) (by decide) (by decide) (by decide) (ad := "[I") (by decide)
      obtain ⟨b119, gq119⟩ : ∃ z, z = h0.size := ⟨_, rfl⟩
      rw [← gq119] at A119 B119 st119
      have g_b119 : n0 ≤ b119 := Nat.le_trans Z0 (Nat.le_of_eq gq119.symm)
      have Z119 : n0 ≤ h119.size := Nat.le_trans Z0 E119.1
      have f120 : Ax Z h119 b119 .int [(.int (0 : Int32)), (.int (0 : Int32))] := Ax.new (ty := .int) (i := 2) A119 (by decide)
      refine DoneW.step st119 ?_
      show DoneW p e below s _ _ _ (T119.setTop (mkF m 111 #[.val (.int p1), .val (.int p2), .val (.long q3), .second, .val (.int p4), .val (.int p5), .val (.int x101), .val (.int x102), .val (.int x104), .val (.int x106), .val (.int x108), .val (.int x110), .val (.int x112), .val (.int x114), .val (.int x116), .unset, .unset, .unset, .unset, .unset] [(.ref b119)]))
      refine DoneW.step (fun t k => XS.dup X119.here hx rfl (hb hby at_111) rfl rfl k) ?_
      show DoneW p e below s _ _ _ (T119.setTop (mkF m 112 #[.val (.int p1), .val (.int p2), .val (.long q3), .second, .val (.int p4), .val (.int p5), .val (.int x101), .val (.int x102), .val (.int x104), .val (.int x106), .val (.int x108), .val (.int x110), .val (.int x112), .val (.int x114), .val (.int x116), .unset, .unset, .unset, .unset, .unset] [(.ref b119), (.ref b119)]))
      refine DoneW.step (fun t k => XS.iconst X119.here hx rfl (hb hby at_112) k) ?_
      show DoneW p e below s _ _ _ (T119.setTop (mkF m 113 #[.val (.int p1), .val (.int p2), .val (.long q3), .second, .val (.int p4), .val (.int p5), .val (.int x101), .val (.int x102), .val (.int x104), .val (.int x106), .val (.int x108), .val (.int x110), .val (.int x112), .val (.int x114), .val (.int x116), .unset, .unset, .unset, .unset, .unset] [(.int (0 : Int32)), (.ref b119), (.ref b119)]))
      refine DoneW.step (fun t k => XS.iload X119.here hx rfl (hb hby at_113) rfl k) ?_
      show DoneW p e below s _ _ _ (T119.setTop (mkF m 115 #[.val (.int p1), .val (.int p2), .val (.long q3), .second, .val (.int p4), .val (.int p5), .val (.int x101), .val (.int x102), .val (.int x104), .val (.int x106), .val (.int x108), .val (.int x110), .val (.int x112), .val (.int x114), .val (.int x116), .unset, .unset, .unset, .unset, .unset] [(.int x102), (.int (0 : Int32)), (.ref b119), (.ref b119)]))
      obtain ⟨T121, h121, X121, e121, W121, A121, st121⟩ := stoI X119 hx hZ e119 f120 (j := (0 : Int32)) (by decide) (i := 0) (by decide) (Nat.le_of_ble_eq_true rfl) (g := (mkF m 115 #[.val (.int p1), .val (.int p2), .val (.long q3), .second, .val (.int p4), .val (.int p5), .val (.int x101), .val (.int x102), .val (.int x104), .val (.int x106), .val (.int x108), .val (.int x110), .val (.int x112), .val (.int x114), .val (.int x116), .unset, .unset, .unset, .unset, .unset] [(.int x102), (.int (0 : Int32)), (.ref b119), (.ref b119)])) rfl rfl (hb hby at_115)
      have f122 : Exa Z h121 b119 "[I" := B119.wr W121
      have f123 : Ax Z h121 b119 .int [(.int x102), (.int (0 : Int32))] := A121
      have Z121 : n0 ≤ h121.size := Nat.le_trans Z119 (Keep.of_wr W121).1
      have N121 := Fr.snoc X121 N115 g_b119
      refine DoneW.step st121 ?_
      show DoneW p e below s _ _ _ (T121.setTop (mkF m 116 #[.val (.int p1), .val (.int p2), .val (.long q3), .second, .val (.int p4), .val (.int p5), .val (.int x101), .val (.int x102), .val (.int x104), .val (.int x106), .val (.int x108), .val (.int x110), .val (.int x112), .val (.int x114), .val (.int x116), .unset, .unset, .unset, .unset, .unset] [(.ref b119)]))
      refine DoneW.step (fun t k => XS.dup X121.here hx rfl (hb hby at_116) rfl rfl k) ?_
      show DoneW p e below s _ _ _ (T121.setTop (mkF m 117 #[.val (.int p1), .val (.int p2), .val (.long q3), .second, .val (.int p4), .val (.int p5), .val (.int x101), .val (.int x102), .val (.int x104), .val (.int x106), .val (.int x108), .val (.int x110), .val (.int x112), .val (.int x114), .val (.int x116), .unset, .unset, .unset, .unset, .unset] [(.ref b119), (.ref b119)]))
      refine DoneW.step (fun t k => XS.iconst X121.here hx rfl (hb hby at_117) k) ?_
      show DoneW p e below s _ _ _ (T121.setTop (mkF m 118 #[.val (.int p1), .val (.int p2), .val (.long q3), .second, .val (.int p4), .val (.int p5), .val (.int x101), .val (.int x102), .val (.int x104), .val (.int x106), .val (.int x108), .val (.int x110), .val (.int x112), .val (.int x114), .val (.int x116), .unset, .unset, .unset, .unset, .unset] [(.int (1 : Int32)), (.ref b119), (.ref b119)]))
      refine DoneW.step (fun t k => XS.iload X121.here hx rfl (hb hby at_118) rfl k) ?_
      show DoneW p e below s _ _ _ (T121.setTop (mkF m 120 #[.val (.int p1), .val (.int p2), .val (.long q3), .second, .val (.int p4), .val (.int p5), .val (.int x101), .val (.int x102), .val (.int x104), .val (.int x106), .val (.int x108), .val (.int x110), .val (.int x112), .val (.int x114), .val (.int x116), .unset, .unset, .unset, .unset, .unset] [(.int x104), (.int (1 : Int32)), (.ref b119), (.ref b119)]))
      obtain ⟨T124, h124, X124, e124, W124, A124, st124⟩ := stoI X121 hx hZ e121 f123 (j := (1 : Int32)) (by decide) (i := 1) (by decide) (Nat.le_of_ble_eq_true rfl) (g := (mkF m 120 #[.val (.int p1), .val (.int p2), .val (.long q3), .second, .val (.int p4), .val (.int p5), .val (.int x101), .val (.int x102), .val (.int x104), .val (.int x106), .val (.int x108), .val (.int x110), .val (.int x112), .val (.int x114), .val (.int x116), .unset, .unset, .unset, .unset, .unset] [(.int x104), (.int (1 : Int32)), (.ref b119), (.ref b119)])) rfl rfl (hb hby at_120)
      have f125 : Exa Z h124 b119 "[I" := f122.wr W124
      have f126 : Ax Z h124 b119 .int [(.int x102), (.int x104)] := A124
      have Z124 : n0 ≤ h124.size := Nat.le_trans Z121 (Keep.of_wr W124).1
      have N124 := Fr.snoc X124 N121 g_b119
      refine DoneW.step st124 ?_
      show DoneW p e below s _ _ _ (T124.setTop (mkF m 121 #[.val (.int p1), .val (.int p2), .val (.long q3), .second, .val (.int p4), .val (.int p5), .val (.int x101), .val (.int x102), .val (.int x104), .val (.int x106), .val (.int x108), .val (.int x110), .val (.int x112), .val (.int x114), .val (.int x116), .unset, .unset, .unset, .unset, .unset] [(.ref b119)]))
      refine DoneW.step (fun t k => XS.astore X124.here hx rfl (hb hby at_121) rfl rfl (l' := #[.val (.int p1), .val (.int p2), .val (.long q3), .second, .val (.int p4), .val (.int p5), .val (.int x101), .val (.int x102), .val (.int x104), .val (.int x106), .val (.int x108), .val (.int x110), .val (.int x112), .val (.int x114), .val (.int x116), .val (.ref b119), .unset, .unset, .unset, .unset]) rfl k) ?_
      show DoneW p e below s _ _ _ (T124.setTop (mkF m 123 #[.val (.int p1), .val (.int p2), .val (.long q3), .second, .val (.int p4), .val (.int p5), .val (.int x101), .val (.int x102), .val (.int x104), .val (.int x106), .val (.int x108), .val (.int x110), .val (.int x112), .val (.int x114), .val (.int x116), .val (.ref b119), .unset, .unset, .unset, .unset] []))
      refine DoneW.step (fun t k => XS.goto X124.here hx rfl (pc0 := 123) (pc' := 253) rfl (hb hby at_123) (by decide) (by decide) k) ?_
      show DoneW p e below s _ _ _ (T124.setTop (mkF m 253 #[.val (.int p1), .val (.int p2), .val (.long q3), .second, .val (.int p4), .val (.int p5), .val (.int x101), .val (.int x102), .val (.int x104), .val (.int x106), .val (.int x108), .val (.int x110), .val (.int x112), .val (.int x114), .val (.int x116), .val (.ref b119), .unset, .unset, .unset, .unset] []))
      exact blk253 p1 p2 q3 p4 p5 x101 x102 x104 x106 x108 x110 x112 x114 x116 b119 [(.int x102), (.int x104)] (X124.mono (by decide) (by decide)) hx hZ hw hby hml hown hlk hret hnm N124 Z124 e124 f126 (own_cov1 c2 (own_chain dx102 dx104 dx106 dx108 dx110 dx112 dx114 dx116))
    · refine DoneW.step (fun t k => XS.icmpYes X115.here hx rfl (pc0 := 105) (pc' := 126) rfl (hb hby at_105) rfl (feq c2).2 (by decide) (by decide) k) ?_
      show DoneW p e below s _ _ _ (T115.setTop (mkF m 126 #[.val (.int p1), .val (.int p2), .val (.long q3), .second, .val (.int p4), .val (.int p5), .val (.int x101), .val (.int x102), .val (.int x104), .val (.int x106), .val (.int x108), .val (.int x110), .val (.int x112), .val (.int x114), .val (.int x116), .unset, .unset, .unset, .unset, .unset] []))
      refine DoneW.step (fun t k => XS.iload X115.here hx rfl (hb hby at_126) rfl k) ?_
      show DoneW p e below s _ _ _ (T115.setTop (mkF m 128 #[.val (.int p1), .val (.int p2), .val (.long q3), .second, .val (.int p4), .val (.int p5), .val (.int x101), .val (.int x102), .val (.int x104), .val (.int x106), .val (.int x108), .val (.int x110), .val (.int x112), .val (.int x114), .val (.int x116), .unset, .unset, .unset, .unset, .unset] [(.int x101)]))
      refine DoneW.step (fun t k => XS.iconst X115.here hx rfl (hb hby at_128) k) ?_
      show DoneW p e below s _ _ _ (T115.setTop (mkF m 129 #[.val (.int p1), .val (.int p2), .val (.long q3), .second, .val (.int p4), .val (.int p5), .val (.int x101), .val (.int x102), .val (.int x104), .val (.int x106), .val (.int x108), .val (.int x110), .val (.int x112), .val (.int x114), .val (.int x116), .unset, .unset, .unset, .unset, .unset] [(.int (2 : Int32)), (.int x101)]))
      by_cases c3 : x101 = (2 : Int32)
      · refine DoneW.step (fun t k => XS.icmpNo X115.here hx rfl (hb hby at_129) rfl (teq c3).2 k) ?_
        show DoneW p e below s _ _ _ (T115.setTop (mkF m 132 #[.val (.int p1), .val (.int p2), .val (.long q3), .second, .val (.int p4), .val (.int p5), .val (.int x101), .val (.int x102), .val (.int x104), .val (.int x106), .val (.int x108), .val (.int x110), .val (.int x112), .val (.int x114), .val (.int x116), .unset, .unset, .unset, .unset, .unset] []))
        refine DoneW.step (fun t k => XS.iconst X115.here hx rfl (hb hby at_132) k) ?_
        show DoneW p e below s _ _ _ (T115.setTop (mkF m 133 #[.val (.int p1), .val (.int p2), .val (.long q3), .second, .val (.int p4), .val (.int p5), .val (.int x101), .val (.int x102), .val (.int x104), .val (.int x106), .val (.int x108), .val (.int x110), .val (.int x112), .val (.int x114), .val (.int x116), .unset, .unset, .unset, .unset, .unset] [(.int (4 : Int32))]))
        obtain ⟨T127, h127, k127, X127, e127, E127, A127, B127, st127⟩ := newPE X115 hx hZ (hw _ (List.mem_of_getElem? (i := 6) rfl)) e115 (g := (mkF m 133 #[.val (.int p1), .val (.int p2), .val (.long q3), .second, .val (.int p4), .val (.int p5), .val (.int x101), .val (.int x102), .val (.int x104), .val (.int x106), .val (.int x108), .val (.int x110), .val (.int x112), .val (.int x114), .val (.int x116), .unset, .unset, .unset, .unset, .unset] [(.int (4 : Int32))])) rfl (hb hby at_133) rfl (by decide) (cap := 4) (by decide) (by decide) (by decide) (by decide) (ad := "[I") (by decide)
        obtain ⟨b127, gq127⟩ : ∃ z, z = h0.size := ⟨_, rfl⟩
        rw [← gq127] at A127 B127 st127
        have g_b127 : n0 ≤ b127 := Nat.le_trans Z0 (Nat.le_of_eq gq127.symm)
        have Z127 : n0 ≤ h127.size := Nat.le_trans Z0 E127.1
        have f128 : Ax Z h127 b127 .int [(.int (0 : Int32)), (.int (0 : Int32)), (.int (0 : Int32)), (.int (0 : Int32))] := Ax.new (ty := .int) (i := 4) A127 (by decide)
        refine DoneW.step st127 ?_
        show DoneW p e below s _ _ _ (T127.setTop (mkF m 135 #[.val (.int p1), .val (.int p2), .val (.long q3), .second, .val (.int p4), .val (.int p5), .val (.int x101), .val (.int x102), .val (.int x104), .val (.int x106), .val (.int x108), .val (.int x110), .val (.int x112), .val (.int x114), .val (.int x116), .unset, .unset, .unset, .unset, .unset] [(.ref b127)]))
        refine DoneW.step (fun t k => XS.dup X127.here hx rfl (hb hby at_135) rfl rfl k) ?_
        show DoneW p e below s _ _ _ (T127.setTop (mkF m 136 #[.val (.int p1), .val (.int p2), .val (.long q3), .second, .val (.int p4), .val (.int p5), .val (.int x101), .val (.int x102), .val (.int x104), .val (.int x106), .val (.int x108), .val (.int x110), .val (.int x112), .val (.int x114), .val (.int x116), .unset, .unset, .unset, .unset, .unset] [(.ref b127), (.ref b127)]))
        refine DoneW.step (fun t k => XS.iconst X127.here hx rfl (hb hby at_136) k) ?_
        show DoneW p e below s _ _ _ (T127.setTop (mkF m 137 #[.val (.int p1), .val (.int p2), .val (.long q3), .second, .val (.int p4), .val (.int p5), .val (.int x101), .val (.int x102), .val (.int x104), .val (.int x106), .val (.int x108), .val (.int x110), .val (.int x112), .val (.int x114), .val (.int x116), .unset, .unset, .unset, .unset, .unset] [(.int (0 : Int32)), (.ref b127), (.ref b127)]))
        refine DoneW.step (fun t k => XS.iload X127.here hx rfl (hb hby at_137) rfl k) ?_
        show DoneW p e below s _ _ _ (T127.setTop (mkF m 139 #[.val (.int p1), .val (.int p2), .val (.long q3), .second, .val (.int p4), .val (.int p5), .val (.int x101), .val (.int x102), .val (.int x104), .val (.int x106), .val (.int x108), .val (.int x110), .val (.int x112), .val (.int x114), .val (.int x116), .unset, .unset, .unset, .unset, .unset] [(.int x102), (.int (0 : Int32)), (.ref b127), (.ref b127)]))
        obtain ⟨T129, h129, X129, e129, W129, A129, st129⟩ := stoI X127 hx hZ e127 f128 (j := (0 : Int32)) (by decide) (i := 0) (by decide) (Nat.le_of_ble_eq_true rfl) (g := (mkF m 139 #[.val (.int p1), .val (.int p2), .val (.long q3), .second, .val (.int p4), .val (.int p5), .val (.int x101), .val (.int x102), .val (.int x104), .val (.int x106), .val (.int x108), .val (.int x110), .val (.int x112), .val (.int x114), .val (.int x116), .unset, .unset, .unset, .unset, .unset] [(.int x102), (.int (0 : Int32)), (.ref b127), (.ref b127)])) rfl rfl (hb hby at_139)
        have f130 : Exa Z h129 b127 "[I" := B127.wr W129
        have f131 : Ax Z h129 b127 .int [(.int x102), (.int (0 : Int32)), (.int (0 : Int32)), (.int (0 : Int32))] := A129
        have Z129 : n0 ≤ h129.size := Nat.le_trans Z127 (Keep.of_wr W129).1
        have N129 := Fr.snoc X129 N115 g_b127
        refine DoneW.step st129 ?_
        show DoneW p e below s _ _ _ (T129.setTop (mkF m 140 #[.val (.int p1), .val (.int p2), .val (.long q3), .second, .val (.int p4), .val (.int p5), .val (.int x101), .val (.int x102), .val (.int x104), .val (.int x106), .val (.int x108), .val (.int x110), .val (.int x112), .val (.int x114), .val (.int x116), .unset, .unset, .unset, .unset, .unset] [(.ref b127)]))
        refine DoneW.step (fun t k => XS.dup X129.here hx rfl (hb hby at_140) rfl rfl k) ?_
        show DoneW p e below s _ _ _ (T129.setTop (mkF m 141 #[.val (.int p1), .val (.int p2), .val (.long q3), .second, .val (.int p4), .val (.int p5), .val (.int x101), .val (.int x102), .val (.int x104), .val (.int x106), .val (.int x108), .val (.int x110), .val (.int x112), .val (.int x114), .val (.int x116), .unset, .unset, .unset, .unset, .unset] [(.ref b127), (.ref b127)]))
        refine DoneW.step (fun t k => XS.iconst X129.here hx rfl (hb hby at_141) k) ?_
        show DoneW p e below s _ _ _ (T129.setTop (mkF m 142 #[.val (.int p1), .val (.int p2), .val (.long q3), .second, .val (.int p4), .val (.int p5), .val (.int x101), .val (.int x102), .val (.int x104), .val (.int x106), .val (.int x108), .val (.int x110), .val (.int x112), .val (.int x114), .val (.int x116), .unset, .unset, .unset, .unset, .unset] [(.int (1 : Int32)), (.ref b127), (.ref b127)]))
        refine DoneW.step (fun t k => XS.iload X129.here hx rfl (hb hby at_142) rfl k) ?_
        show DoneW p e below s _ _ _ (T129.setTop (mkF m 144 #[.val (.int p1), .val (.int p2), .val (.long q3), .second, .val (.int p4), .val (.int p5), .val (.int x101), .val (.int x102), .val (.int x104), .val (.int x106), .val (.int x108), .val (.int x110), .val (.int x112), .val (.int x114), .val (.int x116), .unset, .unset, .unset, .unset, .unset] [(.int x104), (.int (1 : Int32)), (.ref b127), (.ref b127)]))
        obtain ⟨T132, h132, X132, e132, W132, A132, st132⟩ := stoI X129 hx hZ e129 f131 (j := (1 : Int32)) (by decide) (i := 1) (by decide) (Nat.le_of_ble_eq_true rfl) (g := (mkF m 144 #[.val (.int p1), .val (.int p2), .val (.long q3), .second, .val (.int p4), .val (.int p5), .val (.int x101), .val (.int x102), .val (.int x104), .val (.int x106), .val (.int x108), .val (.int x110), .val (.int x112), .val (.int x114), .val (.int x116), .unset, .unset, .unset, .unset, .unset] [(.int x104), (.int (1 : Int32)), (.ref b127), (.ref b127)])) rfl rfl (hb hby at_144)
        have f133 : Exa Z h132 b127 "[I" := f130.wr W132
        have f134 : Ax Z h132 b127 .int [(.int x102), (.int x104), (.int (0 : Int32)), (.int (0 : Int32))] := A132
        have Z132 : n0 ≤ h132.size := Nat.le_trans Z129 (Keep.of_wr W132).1
        have N132 := Fr.snoc X132 N129 g_b127
        refine DoneW.step st132 ?_
        show DoneW p e below s _ _ _ (T132.setTop (mkF m 145 #[.val (.int p1), .val (.int p2), .val (.long q3), .second, .val (.int p4), .val (.int p5), .val (.int x101), .val (.int x102), .val (.int x104), .val (.int x106), .val (.int x108), .val (.int x110), .val (.int x112), .val (.int x114), .val (.int x116), .unset, .unset, .unset, .unset, .unset] [(.ref b127)]))
        refine DoneW.step (fun t k => XS.dup X132.here hx rfl (hb hby at_145) rfl rfl k) ?_
        show DoneW p e below s _ _ _ (T132.setTop (mkF m 146 #[.val (.int p1), .val (.int p2), .val (.long q3), .second, .val (.int p4), .val (.int p5), .val (.int x101), .val (.int x102), .val (.int x104), .val (.int x106), .val (.int x108), .val (.int x110), .val (.int x112), .val (.int x114), .val (.int x116), .unset, .unset, .unset, .unset, .unset] [(.ref b127), (.ref b127)]))
        refine DoneW.step (fun t k => XS.iconst X132.here hx rfl (hb hby at_146) k) ?_
        show DoneW p e below s _ _ _ (T132.setTop (mkF m 147 #[.val (.int p1), .val (.int p2), .val (.long q3), .second, .val (.int p4), .val (.int p5), .val (.int x101), .val (.int x102), .val (.int x104), .val (.int x106), .val (.int x108), .val (.int x110), .val (.int x112), .val (.int x114), .val (.int x116), .unset, .unset, .unset, .unset, .unset] [(.int (2 : Int32)), (.ref b127), (.ref b127)]))
        refine DoneW.step (fun t k => XS.iload X132.here hx rfl (hb hby at_147) rfl k) ?_
        show DoneW p e below s _ _ _ (T132.setTop (mkF m 149 #[.val (.int p1), .val (.int p2), .val (.long q3), .second, .val (.int p4), .val (.int p5), .val (.int x101), .val (.int x102), .val (.int x104), .val (.int x106), .val (.int x108), .val (.int x110), .val (.int x112), .val (.int x114), .val (.int x116), .unset, .unset, .unset, .unset, .unset] [(.int x106), (.int (2 : Int32)), (.ref b127), (.ref b127)]))
        obtain ⟨T135, h135, X135, e135, W135, A135, st135⟩ := stoI X132 hx hZ e132 f134 (j := (2 : Int32)) (by decide) (i := 2) (by decide) (Nat.le_of_ble_eq_true rfl) (g := (mkF m 149 #[.val (.int p1), .val (.int p2), .val (.long q3), .second, .val (.int p4), .val (.int p5), .val (.int x101), .val (.int x102), .val (.int x104), .val (.int x106), .val (.int x108), .val (.int x110), .val (.int x112), .val (.int x114), .val (.int x116), .unset, .unset, .unset, .unset, .unset] [(.int x106), (.int (2 : Int32)), (.ref b127), (.ref b127)])) rfl rfl (hb hby at_149)
        have f136 : Exa Z h135 b127 "[I" := f133.wr W135
        have f137 : Ax Z h135 b127 .int [(.int x102), (.int x104), (.int x106), (.int (0 : Int32))] := A135
        have Z135 : n0 ≤ h135.size := Nat.le_trans Z132 (Keep.of_wr W135).1
        have N135 := Fr.snoc X135 N132 g_b127
        refine DoneW.step st135 ?_
        show DoneW p e below s _ _ _ (T135.setTop (mkF m 150 #[.val (.int p1), .val (.int p2), .val (.long q3), .second, .val (.int p4), .val (.int p5), .val (.int x101), .val (.int x102), .val (.int x104), .val (.int x106), .val (.int x108), .val (.int x110), .val (.int x112), .val (.int x114), .val (.int x116), .unset, .unset, .unset, .unset, .unset] [(.ref b127)]))
        refine DoneW.step (fun t k => XS.dup X135.here hx rfl (hb hby at_150) rfl rfl k) ?_
        show DoneW p e below s _ _ _ (T135.setTop (mkF m 151 #[.val (.int p1), .val (.int p2), .val (.long q3), .second, .val (.int p4), .val (.int p5), .val (.int x101), .val (.int x102), .val (.int x104), .val (.int x106), .val (.int x108), .val (.int x110), .val (.int x112), .val (.int x114), .val (.int x116), .unset, .unset, .unset, .unset, .unset] [(.ref b127), (.ref b127)]))
        refine DoneW.step (fun t k => XS.iconst X135.here hx rfl (hb hby at_151) k) ?_
        show DoneW p e below s _ _ _ (T135.setTop (mkF m 152 #[.val (.int p1), .val (.int p2), .val (.long q3), .second, .val (.int p4), .val (.int p5), .val (.int x101), .val (.int x102), .val (.int x104), .val (.int x106), .val (.int x108), .val (.int x110), .val (.int x112), .val (.int x114), .val (.int x116), .unset, .unset, .unset, .unset, .unset] [(.int (3 : Int32)), (.ref b127), (.ref b127)]))
        refine DoneW.step (fun t k => XS.iload X135.here hx rfl (hb hby at_152) rfl k) ?_
        show DoneW p e below s _ _ _ (T135.setTop (mkF m 154 #[.val (.int p1), .val (.int p2), .val (.long q3), .second, .val (.int p4), .val (.int p5), .val (.int x101), .val (.int x102), .val (.int x104), .val (.int x106), .val (.int x108), .val (.int x110), .val (.int x112), .val (.int x114), .val (.int x116), .unset, .unset, .unset, .unset, .unset] [(.int x108), (.int (3 : Int32)), (.ref b127), (.ref b127)]))
        obtain ⟨T138, h138, X138, e138, W138, A138, st138⟩ := stoI X135 hx hZ e135 f137 (j := (3 : Int32)) (by decide) (i := 3) (by decide) (Nat.le_of_ble_eq_true rfl) (g := (mkF m 154 #[.val (.int p1), .val (.int p2), .val (.long q3), .second, .val (.int p4), .val (.int p5), .val (.int x101), .val (.int x102), .val (.int x104), .val (.int x106), .val (.int x108), .val (.int x110), .val (.int x112), .val (.int x114), .val (.int x116), .unset, .unset, .unset, .unset, .unset] [(.int x108), (.int (3 : Int32)), (.ref b127), (.ref b127)])) rfl rfl (hb hby at_154)
        have f139 : Exa Z h138 b127 "[I" := f136.wr W138
        have f140 : Ax Z h138 b127 .int [(.int x102), (.int x104), (.int x106), (.int x108)] := A138
        have Z138 : n0 ≤ h138.size := Nat.le_trans Z135 (Keep.of_wr W138).1
        have N138 := Fr.snoc X138 N135 g_b127
        refine DoneW.step st138 ?_
        show DoneW p e below s _ _ _ (T138.setTop (mkF m 155 #[.val (.int p1), .val (.int p2), .val (.long q3), .second, .val (.int p4), .val (.int p5), .val (.int x101), .val (.int x102), .val (.int x104), .val (.int x106), .val (.int x108), .val (.int x110), .val (.int x112), .val (.int x114), .val (.int x116), .unset, .unset, .unset, .unset, .unset] [(.ref b127)]))
        refine DoneW.step (fun t k => XS.astore X138.here hx rfl (hb hby at_155) rfl rfl (l' := #[.val (.int p1), .val (.int p2), .val (.long q3), .second, .val (.int p4), .val (.int p5), .val (.int x101), .val (.int x102), .val (.int x104), .val (.int x106), .val (.int x108), .val (.int x110), .val (.int x112), .val (.int x114), .val (.int x116), .val (.ref b127), .unset, .unset, .unset, .unset]) rfl k) ?_
        show DoneW p e below s _ _ _ (T138.setTop (mkF m 157 #[.val (.int p1), .val (.int p2), .val (.long q3), .second, .val (.int p4), .val (.int p5), .val (.int x101), .val (.int x102), .val (.int x104), .val (.int x106), .val (.int x108), .val (.int x110), .val (.int x112), .val (.int x114), .val (.int x116), .val (.ref b127), .unset, .unset, .unset, .unset] []))
        refine DoneW.step (fun t k => XS.goto X138.here hx rfl (pc0 := 157) (pc' := 253) rfl (hb hby at_157) (by decide) (by decide) k) ?_
        show DoneW p e below s _ _ _ (T138.setTop (mkF m 253 #[.val (.int p1), .val (.int p2), .val (.long q3), .second, .val (.int p4), .val (.int p5), .val (.int x101), .val (.int x102), .val (.int x104), .val (.int x106), .val (.int x108), .val (.int x110), .val (.int x112), .val (.int x114), .val (.int x116), .val (.ref b127), .unset, .unset, .unset, .unset] []))
        exact blk253 p1 p2 q3 p4 p5 x101 x102 x104 x106 x108 x110 x112 x114 x116 b127 [(.int x102), (.int x104), (.int x106), (.int x108)] (X138.mono (by decide) (by decide)) hx hZ hw hby hml hown hlk hret hnm N138 Z138 e138 f140 (own_cov2 c3 (own_chain dx102 dx104 dx106 dx108 dx110 dx112 dx114 dx116))
      · refine DoneW.step (fun t k => XS.icmpYes X115.here hx rfl (pc0 := 129) (pc' := 160) rfl (hb hby at_129) rfl (feq c3).2 (by decide) (by decide) k) ?_
        show DoneW p e below s _ _ _ (T115.setTop (mkF m 160 #[.val (.int p1), .val (.int p2), .val (.long q3), .second, .val (.int p4), .val (.int p5), .val (.int x101), .val (.int x102), .val (.int x104), .val (.int x106), .val (.int x108), .val (.int x110), .val (.int x112), .val (.int x114), .val (.int x116), .unset, .unset, .unset, .unset, .unset] []))
        refine DoneW.step (fun t k => XS.iload X115.here hx rfl (hb hby at_160) rfl k) ?_
        show DoneW p e below s _ _ _ (T115.setTop (mkF m 162 #[.val (.int p1), .val (.int p2), .val (.long q3), .second, .val (.int p4), .val (.int p5), .val (.int x101), .val (.int x102), .val (.int x104), .val (.int x106), .val (.int x108), .val (.int x110), .val (.int x112), .val (.int x114), .val (.int x116), .unset, .unset, .unset, .unset, .unset] [(.int x101)]))
        refine DoneW.step (fun t k => XS.iconst X115.here hx rfl (hb hby at_162) k) ?_
        show DoneW p e below s _ _ _ (T115.setTop (mkF m 163 #[.val (.int p1), .val (.int p2), .val (.long q3), .second, .val (.int p4), .val (.int p5), .val (.int x101), .val (.int x102), .val (.int x104), .val (.int x106), .val (.int x108), .val (.int x110), .val (.int x112), .val (.int x114), .val (.int x116), .unset, .unset, .unset, .unset, .unset] [(.int (3 : Int32)), (.int x101)]))
        by_cases c4 : x101 = (3 : Int32)
        · refine DoneW.step (fun t k => XS.icmpNo X115.here hx rfl (hb hby at_163) rfl (teq c4).2 k) ?_
          show DoneW p e below s _ _ _ (T115.setTop (mkF m 166 #[.val (.int p1), .val (.int p2), .val (.long q3), .second, .val (.int p4), .val (.int p5), .val (.int x101), .val (.int x102), .val (.int x104), .val (.int x106), .val (.int x108), .val (.int x110), .val (.int x112), .val (.int x114), .val (.int x116), .unset, .unset, .unset, .unset, .unset] []))
          refine DoneW.step (fun t k => XS.bipush X115.here hx rfl (hb hby at_166) k) ?_
          show DoneW p e below s _ _ _ (T115.setTop (mkF m 168 #[.val (.int p1), .val (.int p2), .val (.long q3), .second, .val (.int p4), .val (.int p5), .val (.int x101), .val (.int x102), .val (.int x104), .val (.int x106), .val (.int x108), .val (.int x110), .val (.int x112), .val (.int x114), .val (.int x116), .unset, .unset, .unset, .unset, .unset] [(.int (6 : Int32))]))
          obtain ⟨T141, h141, k141, X141, e141, E141, A141, B141, st141⟩ := newPE X115 hx hZ (hw _ (List.mem_of_getElem? (i := 6) rfl)) e115 (g := (mkF m 168 #[.val (.int p1), .val (.int p2), .val (.long q3), .second, .val (.int p4), .val (.int p5), .val (.int x101), .val (.int x102), .val (.int x104), .val (.int x106), .val (.int x108), .val (.int x110), .val (.int x112), .val (.int x114), .val (.int x116), .unset, .unset, .unset, .unset, .unset] [(.int (6 : Int32))])) rfl (hb hby at_168) rfl (by decide) (cap := 6) (by decide) (by decide) (by decide) (by decide) (ad := "[I") (by decide)
          obtain ⟨b141, gq141⟩ : ∃ z, z = h0.size := ⟨_, rfl⟩
          rw [← gq141] at A141 B141 st141
          have g_b141 : n0 ≤ b141 := Nat.le_trans Z0 (Nat.le_of_eq gq141.symm)
          have Z141 : n0 ≤ h141.size := Nat.le_trans Z0 E141.1
          have f142 : Ax Z h141 b141 .int [(.int (0 : Int32)), (.int (0 : Int32)), (.int (0 : Int32)), (.int (0 : Int32)), (.int (0 : Int32)), (.int (0 : Int32))] := Ax.new (ty := .int) (i := 6) A141 (by decide)
          refine DoneW.step st141 ?_
          show DoneW p e below s _ _ _ (T141.setTop (mkF m 170 #[.val (.int p1), .val (.int p2), .val (.long q3), .second, .val (.int p4), .val (.int p5), .val (.int x101), .val (.int x102), .val (.int x104), .val (.int x106), .val (.int x108), .val (.int x110), .val (.int x112), .val (.int x114), .val (.int x116), .unset, .unset, .unset, .unset, .unset] [(.ref b141)]))
          refine DoneW.step (fun t k => XS.dup X141.here hx rfl (hb hby at_170) rfl rfl k) ?_
          show DoneW p e below s _ _ _ (T141.setTop (mkF m 171 #[.val (.int p1), .val (.int p2), .val (.long q3), .second, .val (.int p4), .val (.int p5), .val (.int x101), .val (.int x102), .val (.int x104), .val (.int x106), .val (.int x108), .val (.int x110), .val (.int x112), .val (.int x114), .val (.int x116), .unset, .unset, .unset, .unset, .unset] [(.ref b141), (.ref b141)]))
          refine DoneW.step (fun t k => XS.iconst X141.here hx rfl (hb hby at_171) k) ?_
          show DoneW p e below s _ _ _ (T141.setTop (mkF m 172 #[.val (.int p1), .val (.int p2), .val (.long q3), .second, .val (.int p4), .val (.int p5), .val (.int x101), .val (.int x102), .val (.int x104), .val (.int x106), .val (.int x108), .val (.int x110), .val (.int x112), .val (.int x114), .val (.int x116), .unset, .unset, .unset, .unset, .unset] [(.int (0 : Int32)), (.ref b141), (.ref b141)]))
          refine DoneW.step (fun t k => XS.iload X141.here hx rfl (hb hby at_172) rfl k) ?_
          show DoneW p e below s _ _ _ (T141.setTop (mkF m 174 #[.val (.int p1), .val (.int p2), .val (.long q3), .second, .val (.int p4), .val (.int p5), .val (.int x101), .val (.int x102), .val (.int x104), .val (.int x106), .val (.int x108), .val (.int x110), .val (.int x112), .val (.int x114), .val (.int x116), .unset, .unset, .unset, .unset, .unset] [(.int x102), (.int (0 : Int32)), (.ref b141), (.ref b141)]))
          obtain ⟨T143, h143, X143, e143, W143, A143, st143⟩ := stoI X141 hx hZ e141 f142 (j := (0 : Int32)) (by decide) (i := 0) (by decide) (Nat.le_of_ble_eq_true rfl) (g := (mkF m 174 #[.val (.int p1), .val (.int p2), .val (.long q3), .second, .val (.int p4), .val (.int p5), .val (.int x101), .val (.int x102), .val (.int x104), .val (.int x106), .val (.int x108), .val (.int x110), .val (.int x112), .val (.int x114), .val (.int x116), .unset, .unset, .unset, .unset, .unset] [(.int x102), (.int (0 : Int32)), (.ref b141), (.ref b141)])) rfl rfl (hb hby at_174)
          have f144 : Exa Z h143 b141 "[I" := B141.wr W143
          have f145 : Ax Z h143 b141 .int [(.int x102), (.int (0 : Int32)), (.int (0 : Int32)), (.int (0 : Int32)), (.int (0 : Int32)), (.int (0 : Int32))] := A143
          have Z143 : n0 ≤ h143.size := Nat.le_trans Z141 (Keep.of_wr W143).1
          have N143 := Fr.snoc X143 N115 g_b141
          refine DoneW.step st143 ?_
          show DoneW p e below s _ _ _ (T143.setTop (mkF m 175 #[.val (.int p1), .val (.int p2), .val (.long q3), .second, .val (.int p4), .val (.int p5), .val (.int x101), .val (.int x102), .val (.int x104), .val (.int x106), .val (.int x108), .val (.int x110), .val (.int x112), .val (.int x114), .val (.int x116), .unset, .unset, .unset, .unset, .unset] [(.ref b141)]))
          refine DoneW.step (fun t k => XS.dup X143.here hx rfl (hb hby at_175) rfl rfl k) ?_
          show DoneW p e below s _ _ _ (T143.setTop (mkF m 176 #[.val (.int p1), .val (.int p2), .val (.long q3), .second, .val (.int p4), .val (.int p5), .val (.int x101), .val (.int x102), .val (.int x104), .val (.int x106), .val (.int x108), .val (.int x110), .val (.int x112), .val (.int x114), .val (.int x116), .unset, .unset, .unset, .unset, .unset] [(.ref b141), (.ref b141)]))
          refine DoneW.step (fun t k => XS.iconst X143.here hx rfl (hb hby at_176) k) ?_
          show DoneW p e below s _ _ _ (T143.setTop (mkF m 177 #[.val (.int p1), .val (.int p2), .val (.long q3), .second, .val (.int p4), .val (.int p5), .val (.int x101), .val (.int x102), .val (.int x104), .val (.int x106), .val (.int x108), .val (.int x110), .val (.int x112), .val (.int x114), .val (.int x116), .unset, .unset, .unset, .unset, .unset] [(.int (1 : Int32)), (.ref b141), (.ref b141)]))
          refine DoneW.step (fun t k => XS.iload X143.here hx rfl (hb hby at_177) rfl k) ?_
          show DoneW p e below s _ _ _ (T143.setTop (mkF m 179 #[.val (.int p1), .val (.int p2), .val (.long q3), .second, .val (.int p4), .val (.int p5), .val (.int x101), .val (.int x102), .val (.int x104), .val (.int x106), .val (.int x108), .val (.int x110), .val (.int x112), .val (.int x114), .val (.int x116), .unset, .unset, .unset, .unset, .unset] [(.int x104), (.int (1 : Int32)), (.ref b141), (.ref b141)]))
          obtain ⟨T146, h146, X146, e146, W146, A146, st146⟩ := stoI X143 hx hZ e143 f145 (j := (1 : Int32)) (by decide) (i := 1) (by decide) (Nat.le_of_ble_eq_true rfl) (g := (mkF m 179 #[.val (.int p1), .val (.int p2), .val (.long q3), .second, .val (.int p4), .val (.int p5), .val (.int x101), .val (.int x102), .val (.int x104), .val (.int x106), .val (.int x108), .val (.int x110), .val (.int x112), .val (.int x114), .val (.int x116), .unset, .unset, .unset, .unset, .unset] [(.int x104), (.int (1 : Int32)), (.ref b141), (.ref b141)])) rfl rfl (hb hby at_179)
          have f147 : Exa Z h146 b141 "[I" := f144.wr W146
          have f148 : Ax Z h146 b141 .int [(.int x102), (.int x104), (.int (0 : Int32)), (.int (0 : Int32)), (.int (0 : Int32)), (.int (0 : Int32))] := A146
          have Z146 : n0 ≤ h146.size := Nat.le_trans Z143 (Keep.of_wr W146).1
          have N146 := Fr.snoc X146 N143 g_b141
          refine DoneW.step st146 ?_
          show DoneW p e below s _ _ _ (T146.setTop (mkF m 180 #[.val (.int p1), .val (.int p2), .val (.long q3), .second, .val (.int p4), .val (.int p5), .val (.int x101), .val (.int x102), .val (.int x104), .val (.int x106), .val (.int x108), .val (.int x110), .val (.int x112), .val (.int x114), .val (.int x116), .unset, .unset, .unset, .unset, .unset] [(.ref b141)]))
          refine DoneW.step (fun t k => XS.dup X146.here hx rfl (hb hby at_180) rfl rfl k) ?_
          show DoneW p e below s _ _ _ (T146.setTop (mkF m 181 #[.val (.int p1), .val (.int p2), .val (.long q3), .second, .val (.int p4), .val (.int p5), .val (.int x101), .val (.int x102), .val (.int x104), .val (.int x106), .val (.int x108), .val (.int x110), .val (.int x112), .val (.int x114), .val (.int x116), .unset, .unset, .unset, .unset, .unset] [(.ref b141), (.ref b141)]))
          refine DoneW.step (fun t k => XS.iconst X146.here hx rfl (hb hby at_181) k) ?_
          show DoneW p e below s _ _ _ (T146.setTop (mkF m 182 #[.val (.int p1), .val (.int p2), .val (.long q3), .second, .val (.int p4), .val (.int p5), .val (.int x101), .val (.int x102), .val (.int x104), .val (.int x106), .val (.int x108), .val (.int x110), .val (.int x112), .val (.int x114), .val (.int x116), .unset, .unset, .unset, .unset, .unset] [(.int (2 : Int32)), (.ref b141), (.ref b141)]))
          refine DoneW.step (fun t k => XS.iload X146.here hx rfl (hb hby at_182) rfl k) ?_
          show DoneW p e below s _ _ _ (T146.setTop (mkF m 184 #[.val (.int p1), .val (.int p2), .val (.long q3), .second, .val (.int p4), .val (.int p5), .val (.int x101), .val (.int x102), .val (.int x104), .val (.int x106), .val (.int x108), .val (.int x110), .val (.int x112), .val (.int x114), .val (.int x116), .unset, .unset, .unset, .unset, .unset] [(.int x106), (.int (2 : Int32)), (.ref b141), (.ref b141)]))
          obtain ⟨T149, h149, X149, e149, W149, A149, st149⟩ := stoI X146 hx hZ e146 f148 (j := (2 : Int32)) (by decide) (i := 2) (by decide) (Nat.le_of_ble_eq_true rfl) (g := (mkF m 184 #[.val (.int p1), .val (.int p2), .val (.long q3), .second, .val (.int p4), .val (.int p5), .val (.int x101), .val (.int x102), .val (.int x104), .val (.int x106), .val (.int x108), .val (.int x110), .val (.int x112), .val (.int x114), .val (.int x116), .unset, .unset, .unset, .unset, .unset] [(.int x106), (.int (2 : Int32)), (.ref b141), (.ref b141)])) rfl rfl (hb hby at_184)
          have f150 : Exa Z h149 b141 "[I" := f147.wr W149
          have f151 : Ax Z h149 b141 .int [(.int x102), (.int x104), (.int x106), (.int (0 : Int32)), (.int (0 : Int32)), (.int (0 : Int32))] := A149
          have Z149 : n0 ≤ h149.size := Nat.le_trans Z146 (Keep.of_wr W149).1
          have N149 := Fr.snoc X149 N146 g_b141
          refine DoneW.step st149 ?_
          show DoneW p e below s _ _ _ (T149.setTop (mkF m 185 #[.val (.int p1), .val (.int p2), .val (.long q3), .second, .val (.int p4), .val (.int p5), .val (.int x101), .val (.int x102), .val (.int x104), .val (.int x106), .val (.int x108), .val (.int x110), .val (.int x112), .val (.int x114), .val (.int x116), .unset, .unset, .unset, .unset, .unset] [(.ref b141)]))
          refine DoneW.step (fun t k => XS.dup X149.here hx rfl (hb hby at_185) rfl rfl k) ?_
          show DoneW p e below s _ _ _ (T149.setTop (mkF m 186 #[.val (.int p1), .val (.int p2), .val (.long q3), .second, .val (.int p4), .val (.int p5), .val (.int x101), .val (.int x102), .val (.int x104), .val (.int x106), .val (.int x108), .val (.int x110), .val (.int x112), .val (.int x114), .val (.int x116), .unset, .unset, .unset, .unset, .unset] [(.ref b141), (.ref b141)]))
          refine DoneW.step (fun t k => XS.iconst X149.here hx rfl (hb hby at_186) k) ?_
          show DoneW p e below s _ _ _ (T149.setTop (mkF m 187 #[.val (.int p1), .val (.int p2), .val (.long q3), .second, .val (.int p4), .val (.int p5), .val (.int x101), .val (.int x102), .val (.int x104), .val (.int x106), .val (.int x108), .val (.int x110), .val (.int x112), .val (.int x114), .val (.int x116), .unset, .unset, .unset, .unset, .unset] [(.int (3 : Int32)), (.ref b141), (.ref b141)]))
          refine DoneW.step (fun t k => XS.iload X149.here hx rfl (hb hby at_187) rfl k) ?_
          show DoneW p e below s _ _ _ (T149.setTop (mkF m 189 #[.val (.int p1), .val (.int p2), .val (.long q3), .second, .val (.int p4), .val (.int p5), .val (.int x101), .val (.int x102), .val (.int x104), .val (.int x106), .val (.int x108), .val (.int x110), .val (.int x112), .val (.int x114), .val (.int x116), .unset, .unset, .unset, .unset, .unset] [(.int x108), (.int (3 : Int32)), (.ref b141), (.ref b141)]))
          obtain ⟨T152, h152, X152, e152, W152, A152, st152⟩ := stoI X149 hx hZ e149 f151 (j := (3 : Int32)) (by decide) (i := 3) (by decide) (Nat.le_of_ble_eq_true rfl) (g := (mkF m 189 #[.val (.int p1), .val (.int p2), .val (.long q3), .second, .val (.int p4), .val (.int p5), .val (.int x101), .val (.int x102), .val (.int x104), .val (.int x106), .val (.int x108), .val (.int x110), .val (.int x112), .val (.int x114), .val (.int x116), .unset, .unset, .unset, .unset, .unset] [(.int x108), (.int (3 : Int32)), (.ref b141), (.ref b141)])) rfl rfl (hb hby at_189)
          have f153 : Exa Z h152 b141 "[I" := f150.wr W152
          have f154 : Ax Z h152 b141 .int [(.int x102), (.int x104), (.int x106), (.int x108), (.int (0 : Int32)), (.int (0 : Int32))] := A152
          have Z152 : n0 ≤ h152.size := Nat.le_trans Z149 (Keep.of_wr W152).1
          have N152 := Fr.snoc X152 N149 g_b141
          refine DoneW.step st152 ?_
          show DoneW p e below s _ _ _ (T152.setTop (mkF m 190 #[.val (.int p1), .val (.int p2), .val (.long q3), .second, .val (.int p4), .val (.int p5), .val (.int x101), .val (.int x102), .val (.int x104), .val (.int x106), .val (.int x108), .val (.int x110), .val (.int x112), .val (.int x114), .val (.int x116), .unset, .unset, .unset, .unset, .unset] [(.ref b141)]))
          refine DoneW.step (fun t k => XS.dup X152.here hx rfl (hb hby at_190) rfl rfl k) ?_
          show DoneW p e below s _ _ _ (T152.setTop (mkF m 191 #[.val (.int p1), .val (.int p2), .val (.long q3), .second, .val (.int p4), .val (.int p5), .val (.int x101), .val (.int x102), .val (.int x104), .val (.int x106), .val (.int x108), .val (.int x110), .val (.int x112), .val (.int x114), .val (.int x116), .unset, .unset, .unset, .unset, .unset] [(.ref b141), (.ref b141)]))
          refine DoneW.step (fun t k => XS.iconst X152.here hx rfl (hb hby at_191) k) ?_
          show DoneW p e below s _ _ _ (T152.setTop (mkF m 192 #[.val (.int p1), .val (.int p2), .val (.long q3), .second, .val (.int p4), .val (.int p5), .val (.int x101), .val (.int x102), .val (.int x104), .val (.int x106), .val (.int x108), .val (.int x110), .val (.int x112), .val (.int x114), .val (.int x116), .unset, .unset, .unset, .unset, .unset] [(.int (4 : Int32)), (.ref b141), (.ref b141)]))
          refine DoneW.step (fun t k => XS.iload X152.here hx rfl (hb hby at_192) rfl k) ?_
          show DoneW p e below s _ _ _ (T152.setTop (mkF m 194 #[.val (.int p1), .val (.int p2), .val (.long q3), .second, .val (.int p4), .val (.int p5), .val (.int x101), .val (.int x102), .val (.int x104), .val (.int x106), .val (.int x108), .val (.int x110), .val (.int x112), .val (.int x114), .val (.int x116), .unset, .unset, .unset, .unset, .unset] [(.int x110), (.int (4 : Int32)), (.ref b141), (.ref b141)]))
          obtain ⟨T155, h155, X155, e155, W155, A155, st155⟩ := stoI X152 hx hZ e152 f154 (j := (4 : Int32)) (by decide) (i := 4) (by decide) (Nat.le_of_ble_eq_true rfl) (g := (mkF m 194 #[.val (.int p1), .val (.int p2), .val (.long q3), .second, .val (.int p4), .val (.int p5), .val (.int x101), .val (.int x102), .val (.int x104), .val (.int x106), .val (.int x108), .val (.int x110), .val (.int x112), .val (.int x114), .val (.int x116), .unset, .unset, .unset, .unset, .unset] [(.int x110), (.int (4 : Int32)), (.ref b141), (.ref b141)])) rfl rfl (hb hby at_194)
          have f156 : Exa Z h155 b141 "[I" := f153.wr W155
          have f157 : Ax Z h155 b141 .int [(.int x102), (.int x104), (.int x106), (.int x108), (.int x110), (.int (0 : Int32))] := A155
          have Z155 : n0 ≤ h155.size := Nat.le_trans Z152 (Keep.of_wr W155).1
          have N155 := Fr.snoc X155 N152 g_b141
          refine DoneW.step st155 ?_
          show DoneW p e below s _ _ _ (T155.setTop (mkF m 195 #[.val (.int p1), .val (.int p2), .val (.long q3), .second, .val (.int p4), .val (.int p5), .val (.int x101), .val (.int x102), .val (.int x104), .val (.int x106), .val (.int x108), .val (.int x110), .val (.int x112), .val (.int x114), .val (.int x116), .unset, .unset, .unset, .unset, .unset] [(.ref b141)]))
          refine DoneW.step (fun t k => XS.dup X155.here hx rfl (hb hby at_195) rfl rfl k) ?_
          show DoneW p e below s _ _ _ (T155.setTop (mkF m 196 #[.val (.int p1), .val (.int p2), .val (.long q3), .second, .val (.int p4), .val (.int p5), .val (.int x101), .val (.int x102), .val (.int x104), .val (.int x106), .val (.int x108), .val (.int x110), .val (.int x112), .val (.int x114), .val (.int x116), .unset, .unset, .unset, .unset, .unset] [(.ref b141), (.ref b141)]))
          refine DoneW.step (fun t k => XS.iconst X155.here hx rfl (hb hby at_196) k) ?_
          show DoneW p e below s _ _ _ (T155.setTop (mkF m 197 #[.val (.int p1), .val (.int p2), .val (.long q3), .second, .val (.int p4), .val (.int p5), .val (.int x101), .val (.int x102), .val (.int x104), .val (.int x106), .val (.int x108), .val (.int x110), .val (.int x112), .val (.int x114), .val (.int x116), .unset, .unset, .unset, .unset, .unset] [(.int (5 : Int32)), (.ref b141), (.ref b141)]))
          refine DoneW.step (fun t k => XS.iload X155.here hx rfl (hb hby at_197) rfl k) ?_
          show DoneW p e below s _ _ _ (T155.setTop (mkF m 199 #[.val (.int p1), .val (.int p2), .val (.long q3), .second, .val (.int p4), .val (.int p5), .val (.int x101), .val (.int x102), .val (.int x104), .val (.int x106), .val (.int x108), .val (.int x110), .val (.int x112), .val (.int x114), .val (.int x116), .unset, .unset, .unset, .unset, .unset] [(.int x112), (.int (5 : Int32)), (.ref b141), (.ref b141)]))
          obtain ⟨T158, h158, X158, e158, W158, A158, st158⟩ := stoI X155 hx hZ e155 f157 (j := (5 : Int32)) (by decide) (i := 5) (by decide) (Nat.le_of_ble_eq_true rfl) (g := (mkF m 199 #[.val (.int p1), .val (.int p2), .val (.long q3), .second, .val (.int p4), .val (.int p5), .val (.int x101), .val (.int x102), .val (.int x104), .val (.int x106), .val (.int x108), .val (.int x110), .val (.int x112), .val (.int x114), .val (.int x116), .unset, .unset, .unset, .unset, .unset] [(.int x112), (.int (5 : Int32)), (.ref b141), (.ref b141)])) rfl rfl (hb hby at_199)
          have f159 : Exa Z h158 b141 "[I" := f156.wr W158
          have f160 : Ax Z h158 b141 .int [(.int x102), (.int x104), (.int x106), (.int x108), (.int x110), (.int x112)] := A158
          have Z158 : n0 ≤ h158.size := Nat.le_trans Z155 (Keep.of_wr W158).1
          have N158 := Fr.snoc X158 N155 g_b141
          refine DoneW.step st158 ?_
          show DoneW p e below s _ _ _ (T158.setTop (mkF m 200 #[.val (.int p1), .val (.int p2), .val (.long q3), .second, .val (.int p4), .val (.int p5), .val (.int x101), .val (.int x102), .val (.int x104), .val (.int x106), .val (.int x108), .val (.int x110), .val (.int x112), .val (.int x114), .val (.int x116), .unset, .unset, .unset, .unset, .unset] [(.ref b141)]))
          refine DoneW.step (fun t k => XS.astore X158.here hx rfl (hb hby at_200) rfl rfl (l' := #[.val (.int p1), .val (.int p2), .val (.long q3), .second, .val (.int p4), .val (.int p5), .val (.int x101), .val (.int x102), .val (.int x104), .val (.int x106), .val (.int x108), .val (.int x110), .val (.int x112), .val (.int x114), .val (.int x116), .val (.ref b141), .unset, .unset, .unset, .unset]) rfl k) ?_
          show DoneW p e below s _ _ _ (T158.setTop (mkF m 202 #[.val (.int p1), .val (.int p2), .val (.long q3), .second, .val (.int p4), .val (.int p5), .val (.int x101), .val (.int x102), .val (.int x104), .val (.int x106), .val (.int x108), .val (.int x110), .val (.int x112), .val (.int x114), .val (.int x116), .val (.ref b141), .unset, .unset, .unset, .unset] []))
          refine DoneW.step (fun t k => XS.goto X158.here hx rfl (pc0 := 202) (pc' := 253) rfl (hb hby at_202) (by decide) (by decide) k) ?_
          show DoneW p e below s _ _ _ (T158.setTop (mkF m 253 #[.val (.int p1), .val (.int p2), .val (.long q3), .second, .val (.int p4), .val (.int p5), .val (.int x101), .val (.int x102), .val (.int x104), .val (.int x106), .val (.int x108), .val (.int x110), .val (.int x112), .val (.int x114), .val (.int x116), .val (.ref b141), .unset, .unset, .unset, .unset] []))
          exact blk253 p1 p2 q3 p4 p5 x101 x102 x104 x106 x108 x110 x112 x114 x116 b141 [(.int x102), (.int x104), (.int x106), (.int x108), (.int x110), (.int x112)] (X158.mono (by decide) (by decide)) hx hZ hw hby hml hown hlk hret hnm N158 Z158 e158 f160 (own_cov3 c4 (own_chain dx102 dx104 dx106 dx108 dx110 dx112 dx114 dx116))
        · refine DoneW.step (fun t k => XS.icmpYes X115.here hx rfl (pc0 := 163) (pc' := 205) rfl (hb hby at_163) rfl (feq c4).2 (by decide) (by decide) k) ?_
          show DoneW p e below s _ _ _ (T115.setTop (mkF m 205 #[.val (.int p1), .val (.int p2), .val (.long q3), .second, .val (.int p4), .val (.int p5), .val (.int x101), .val (.int x102), .val (.int x104), .val (.int x106), .val (.int x108), .val (.int x110), .val (.int x112), .val (.int x114), .val (.int x116), .unset, .unset, .unset, .unset, .unset] []))
          refine DoneW.step (fun t k => XS.bipush X115.here hx rfl (hb hby at_205) k) ?_
          show DoneW p e below s _ _ _ (T115.setTop (mkF m 207 #[.val (.int p1), .val (.int p2), .val (.long q3), .second, .val (.int p4), .val (.int p5), .val (.int x101), .val (.int x102), .val (.int x104), .val (.int x106), .val (.int x108), .val (.int x110), .val (.int x112), .val (.int x114), .val (.int x116), .unset, .unset, .unset, .unset, .unset] [(.int (8 : Int32))]))
          obtain ⟨T161, h161, k161, X161, e161, E161, A161, B161, st161⟩ := newPE X115 hx hZ (hw _ (List.mem_of_getElem? (i := 6) rfl)) e115 (g := (mkF m 207 #[.val (.int p1), .val (.int p2), .val (.long q3), .second, .val (.int p4), .val (.int p5), .val (.int x101), .val (.int x102), .val (.int x104), .val (.int x106), .val (.int x108), .val (.int x110), .val (.int x112), .val (.int x114), .val (.int x116), .unset, .unset, .unset, .unset, .unset] [(.int (8 : Int32))])) rfl (hb hby at_207) rfl (by decide) (cap := 8) (by decide) (by decide) (by decide) (by decide) (ad := "[I") (by decide)
          obtain ⟨b161, gq161⟩ : ∃ z, z = h0.size := ⟨_, rfl⟩
          rw [← gq161] at A161 B161 st161
          have g_b161 : n0 ≤ b161 := Nat.le_trans Z0 (Nat.le_of_eq gq161.symm)
          have Z161 : n0 ≤ h161.size := Nat.le_trans Z0 E161.1
          have f162 : Ax Z h161 b161 .int [(.int (0 : Int32)), (.int (0 : Int32)), (.int (0 : Int32)), (.int (0 : Int32)), (.int (0 : Int32)), (.int (0 : Int32)), (.int (0 : Int32)), (.int (0 : Int32))] := Ax.new (ty := .int) (i := 8) A161 (by decide)
          refine DoneW.step st161 ?_
          show DoneW p e below s _ _ _ (T161.setTop (mkF m 209 #[.val (.int p1), .val (.int p2), .val (.long q3), .second, .val (.int p4), .val (.int p5), .val (.int x101), .val (.int x102), .val (.int x104), .val (.int x106), .val (.int x108), .val (.int x110), .val (.int x112), .val (.int x114), .val (.int x116), .unset, .unset, .unset, .unset, .unset] [(.ref b161)]))
          refine DoneW.step (fun t k => XS.dup X161.here hx rfl (hb hby at_209) rfl rfl k) ?_
          show DoneW p e below s _ _ _ (T161.setTop (mkF m 210 #[.val (.int p1), .val (.int p2), .val (.long q3), .second, .val (.int p4), .val (.int p5), .val (.int x101), .val (.int x102), .val (.int x104), .val (.int x106), .val (.int x108), .val (.int x110), .val (.int x112), .val (.int x114), .val (.int x116), .unset, .unset, .unset, .unset, .unset] [(.ref b161), (.ref b161)]))
          refine DoneW.step (fun t k => XS.iconst X161.here hx rfl (hb hby at_210) k) ?_
          show DoneW p e below s _ _ _ (T161.setTop (mkF m 211 #[.val (.int p1), .val (.int p2), .val (.long q3), .second, .val (.int p4), .val (.int p5), .val (.int x101), .val (.int x102), .val (.int x104), .val (.int x106), .val (.int x108), .val (.int x110), .val (.int x112), .val (.int x114), .val (.int x116), .unset, .unset, .unset, .unset, .unset] [(.int (0 : Int32)), (.ref b161), (.ref b161)]))
          refine DoneW.step (fun t k => XS.iload X161.here hx rfl (hb hby at_211) rfl k) ?_
          show DoneW p e below s _ _ _ (T161.setTop (mkF m 213 #[.val (.int p1), .val (.int p2), .val (.long q3), .second, .val (.int p4), .val (.int p5), .val (.int x101), .val (.int x102), .val (.int x104), .val (.int x106), .val (.int x108), .val (.int x110), .val (.int x112), .val (.int x114), .val (.int x116), .unset, .unset, .unset, .unset, .unset] [(.int x102), (.int (0 : Int32)), (.ref b161), (.ref b161)]))
          obtain ⟨T163, h163, X163, e163, W163, A163, st163⟩ := stoI X161 hx hZ e161 f162 (j := (0 : Int32)) (by decide) (i := 0) (by decide) (Nat.le_of_ble_eq_true rfl) (g := (mkF m 213 #[.val (.int p1), .val (.int p2), .val (.long q3), .second, .val (.int p4), .val (.int p5), .val (.int x101), .val (.int x102), .val (.int x104), .val (.int x106), .val (.int x108), .val (.int x110), .val (.int x112), .val (.int x114), .val (.int x116), .unset, .unset, .unset, .unset, .unset] [(.int x102), (.int (0 : Int32)), (.ref b161), (.ref b161)])) rfl rfl (hb hby at_213)
          have f164 : Exa Z h163 b161 "[I" := B161.wr W163
          have f165 : Ax Z h163 b161 .int [(.int x102), (.int (0 : Int32)), (.int (0 : Int32)), (.int (0 : Int32)), (.int (0 : Int32)), (.int (0 : Int32)), (.int (0 : Int32)), (.int (0 : Int32))] := A163
          have Z163 : n0 ≤ h163.size := Nat.le_trans Z161 (Keep.of_wr W163).1
          have N163 := Fr.snoc X163 N115 g_b161
          refine DoneW.step st163 ?_
          show DoneW p e below s _ _ _ (T163.setTop (mkF m 214 #[.val (.int p1), .val (.int p2), .val (.long q3), .second, .val (.int p4), .val (.int p5), .val (.int x101), .val (.int x102), .val (.int x104), .val (.int x106), .val (.int x108), .val (.int x110), .val (.int x112), .val (.int x114), .val (.int x116), .unset, .unset, .unset, .unset, .unset] [(.ref b161)]))
          refine DoneW.step (fun t k => XS.dup X163.here hx rfl (hb hby at_214) rfl rfl k) ?_
          show DoneW p e below s _ _ _ (T163.setTop (mkF m 215 #[.val (.int p1), .val (.int p2), .val (.long q3), .second, .val (.int p4), .val (.int p5), .val (.int x101), .val (.int x102), .val (.int x104), .val (.int x106), .val (.int x108), .val (.int x110), .val (.int x112), .val (.int x114), .val (.int x116), .unset, .unset, .unset, .unset, .unset] [(.ref b161), (.ref b161)]))
          refine DoneW.step (fun t k => XS.iconst X163.here hx rfl (hb hby at_215) k) ?_
          show DoneW p e below s _ _ _ (T163.setTop (mkF m 216 #[.val (.int p1), .val (.int p2), .val (.long q3), .second, .val (.int p4), .val (.int p5), .val (.int x101), .val (.int x102), .val (.int x104), .val (.int x106), .val (.int x108), .val (.int x110), .val (.int x112), .val (.int x114), .val (.int x116), .unset, .unset, .unset, .unset, .unset] [(.int (1 : Int32)), (.ref b161), (.ref b161)]))
          refine DoneW.step (fun t k => XS.iload X163.here hx rfl (hb hby at_216) rfl k) ?_
          show DoneW p e below s _ _ _ (T163.setTop (mkF m 218 #[.val (.int p1), .val (.int p2), .val (.long q3), .second, .val (.int p4), .val (.int p5), .val (.int x101), .val (.int x102), .val (.int x104), .val (.int x106), .val (.int x108), .val (.int x110), .val (.int x112), .val (.int x114), .val (.int x116), .unset, .unset, .unset, .unset, .unset] [(.int x104), (.int (1 : Int32)), (.ref b161), (.ref b161)]))
          obtain ⟨T166, h166, X166, e166, W166, A166, st166⟩ := stoI X163 hx hZ e163 f165 (j := (1 : Int32)) (by decide) (i := 1) (by decide) (Nat.le_of_ble_eq_true rfl) (g := (mkF m 218 #[.val (.int p1), .val (.int p2), .val (.long q3), .second, .val (.int p4), .val (.int p5), .val (.int x101), .val (.int x102), .val (.int x104), .val (.int x106), .val (.int x108), .val (.int x110), .val (.int x112), .val (.int x114), .val (.int x116), .unset, .unset, .unset, .unset, .unset] [(.int x104), (.int (1 : Int32)), (.ref b161), (.ref b161)])) rfl rfl (hb hby at_218)
          have f167 : Exa Z h166 b161 "[I" := f164.wr W166
          have f168 : Ax Z h166 b161 .int [(.int x102), (.int x104), (.int (0 : Int32)), (.int (0 : Int32)), (.int (0 : Int32)), (.int (0 : Int32)), (.int (0 : Int32)), (.int (0 : Int32))] := A166
          have Z166 : n0 ≤ h166.size := Nat.le_trans Z163 (Keep.of_wr W166).1
          have N166 := Fr.snoc X166 N163 g_b161
          refine DoneW.step st166 ?_
          show DoneW p e below s _ _ _ (T166.setTop (mkF m 219 #[.val (.int p1), .val (.int p2), .val (.long q3), .second, .val (.int p4), .val (.int p5), .val (.int x101), .val (.int x102), .val (.int x104), .val (.int x106), .val (.int x108), .val (.int x110), .val (.int x112), .val (.int x114), .val (.int x116), .unset, .unset, .unset, .unset, .unset] [(.ref b161)]))
          refine DoneW.step (fun t k => XS.dup X166.here hx rfl (hb hby at_219) rfl rfl k) ?_
          show DoneW p e below s _ _ _ (T166.setTop (mkF m 220 #[.val (.int p1), .val (.int p2), .val (.long q3), .second, .val (.int p4), .val (.int p5), .val (.int x101), .val (.int x102), .val (.int x104), .val (.int x106), .val (.int x108), .val (.int x110), .val (.int x112), .val (.int x114), .val (.int x116), .unset, .unset, .unset, .unset, .unset] [(.ref b161), (.ref b161)]))
          refine DoneW.step (fun t k => XS.iconst X166.here hx rfl (hb hby at_220) k) ?_
          show DoneW p e below s _ _ _ (T166.setTop (mkF m 221 #[.val (.int p1), .val (.int p2), .val (.long q3), .second, .val (.int p4), .val (.int p5), .val (.int x101), .val (.int x102), .val (.int x104), .val (.int x106), .val (.int x108), .val (.int x110), .val (.int x112), .val (.int x114), .val (.int x116), .unset, .unset, .unset, .unset, .unset] [(.int (2 : Int32)), (.ref b161), (.ref b161)]))
          refine DoneW.step (fun t k => XS.iload X166.here hx rfl (hb hby at_221) rfl k) ?_
          show DoneW p e below s _ _ _ (T166.setTop (mkF m 223 #[.val (.int p1), .val (.int p2), .val (.long q3), .second, .val (.int p4), .val (.int p5), .val (.int x101), .val (.int x102), .val (.int x104), .val (.int x106), .val (.int x108), .val (.int x110), .val (.int x112), .val (.int x114), .val (.int x116), .unset, .unset, .unset, .unset, .unset] [(.int x106), (.int (2 : Int32)), (.ref b161), (.ref b161)]))
          obtain ⟨T169, h169, X169, e169, W169, A169, st169⟩ := stoI X166 hx hZ e166 f168 (j := (2 : Int32)) (by decide) (i := 2) (by decide) (Nat.le_of_ble_eq_true rfl) (g := (mkF m 223 #[.val (.int p1), .val (.int p2), .val (.long q3), .second, .val (.int p4), .val (.int p5), .val (.int x101), .val (.int x102), .val (.int x104), .val (.int x106), .val (.int x108), .val (.int x110), .val (.int x112), .val (.int x114), .val (.int x116), .unset, .unset, .unset, .unset, .unset] [(.int x106), (.int (2 : Int32)), (.ref b161), (.ref b161)])) rfl rfl (hb hby at_223)
          have f170 : Exa Z h169 b161 "[I" := f167.wr W169
          have f171 : Ax Z h169 b161 .int [(.int x102), (.int x104), (.int x106), (.int (0 : Int32)), (.int (0 : Int32)), (.int (0 : Int32)), (.int (0 : Int32)), (.int (0 : Int32))] := A169
          have Z169 : n0 ≤ h169.size := Nat.le_trans Z166 (Keep.of_wr W169).1
          have N169 := Fr.snoc X169 N166 g_b161
          refine DoneW.step st169 ?_
          show DoneW p e below s _ _ _ (T169.setTop (mkF m 224 #[.val (.int p1), .val (.int p2), .val (.long q3), .second, .val (.int p4), .val (.int p5), .val (.int x101), .val (.int x102), .val (.int x104), .val (.int x106), .val (.int x108), .val (.int x110), .val (.int x112), .val (.int x114), .val (.int x116), .unset, .unset, .unset, .unset, .unset] [(.ref b161)]))
          refine DoneW.step (fun t k => XS.dup X169.here hx rfl (hb hby at_224) rfl rfl k) ?_
          show DoneW p e below s _ _ _ (T169.setTop (mkF m 225 #[.val (.int p1), .val (.int p2), .val (.long q3), .second, .val (.int p4), .val (.int p5), .val (.int x101), .val (.int x102), .val (.int x104), .val (.int x106), .val (.int x108), .val (.int x110), .val (.int x112), .val (.int x114), .val (.int x116), .unset, .unset, .unset, .unset, .unset] [(.ref b161), (.ref b161)]))
          refine DoneW.step (fun t k => XS.iconst X169.here hx rfl (hb hby at_225) k) ?_
          show DoneW p e below s _ _ _ (T169.setTop (mkF m 226 #[.val (.int p1), .val (.int p2), .val (.long q3), .second, .val (.int p4), .val (.int p5), .val (.int x101), .val (.int x102), .val (.int x104), .val (.int x106), .val (.int x108), .val (.int x110), .val (.int x112), .val (.int x114), .val (.int x116), .unset, .unset, .unset, .unset, .unset] [(.int (3 : Int32)), (.ref b161), (.ref b161)]))
          refine DoneW.step (fun t k => XS.iload X169.here hx rfl (hb hby at_226) rfl k) ?_
          show DoneW p e below s _ _ _ (T169.setTop (mkF m 228 #[.val (.int p1), .val (.int p2), .val (.long q3), .second, .val (.int p4), .val (.int p5), .val (.int x101), .val (.int x102), .val (.int x104), .val (.int x106), .val (.int x108), .val (.int x110), .val (.int x112), .val (.int x114), .val (.int x116), .unset, .unset, .unset, .unset, .unset] [(.int x108), (.int (3 : Int32)), (.ref b161), (.ref b161)]))
          obtain ⟨T172, h172, X172, e172, W172, A172, st172⟩ := stoI X169 hx hZ e169 f171 (j := (3 : Int32)) (by decide) (i := 3) (by decide) (Nat.le_of_ble_eq_true rfl) (g := (mkF m 228 #[.val (.int p1), .val (.int p2), .val (.long q3), .second, .val (.int p4), .val (.int p5), .val (.int x101), .val (.int x102), .val (.int x104), .val (.int x106), .val (.int x108), .val (.int x110), .val (.int x112), .val (.int x114), .val (.int x116), .unset, .unset, .unset, .unset, .unset] [(.int x108), (.int (3 : Int32)), (.ref b161), (.ref b161)])) rfl rfl (hb hby at_228)
          have f173 : Exa Z h172 b161 "[I" := f170.wr W172
          have f174 : Ax Z h172 b161 .int [(.int x102), (.int x104), (.int x106), (.int x108), (.int (0 : Int32)), (.int (0 : Int32)), (.int (0 : Int32)), (.int (0 : Int32))] := A172
          have Z172 : n0 ≤ h172.size := Nat.le_trans Z169 (Keep.of_wr W172).1
          have N172 := Fr.snoc X172 N169 g_b161
          refine DoneW.step st172 ?_
          show DoneW p e below s _ _ _ (T172.setTop (mkF m 229 #[.val (.int p1), .val (.int p2), .val (.long q3), .second, .val (.int p4), .val (.int p5), .val (.int x101), .val (.int x102), .val (.int x104), .val (.int x106), .val (.int x108), .val (.int x110), .val (.int x112), .val (.int x114), .val (.int x116), .unset, .unset, .unset, .unset, .unset] [(.ref b161)]))
          refine DoneW.step (fun t k => XS.dup X172.here hx rfl (hb hby at_229) rfl rfl k) ?_
          show DoneW p e below s _ _ _ (T172.setTop (mkF m 230 #[.val (.int p1), .val (.int p2), .val (.long q3), .second, .val (.int p4), .val (.int p5), .val (.int x101), .val (.int x102), .val (.int x104), .val (.int x106), .val (.int x108), .val (.int x110), .val (.int x112), .val (.int x114), .val (.int x116), .unset, .unset, .unset, .unset, .unset] [(.ref b161), (.ref b161)]))
          refine DoneW.step (fun t k => XS.iconst X172.here hx rfl (hb hby at_230) k) ?_
          show DoneW p e below s _ _ _ (T172.setTop (mkF m 231 #[.val (.int p1), .val (.int p2), .val (.long q3), .second, .val (.int p4), .val (.int p5), .val (.int x101), .val (.int x102), .val (.int x104), .val (.int x106), .val (.int x108), .val (.int x110), .val (.int x112), .val (.int x114), .val (.int x116), .unset, .unset, .unset, .unset, .unset] [(.int (4 : Int32)), (.ref b161), (.ref b161)]))
          refine DoneW.step (fun t k => XS.iload X172.here hx rfl (hb hby at_231) rfl k) ?_
          show DoneW p e below s _ _ _ (T172.setTop (mkF m 233 #[.val (.int p1), .val (.int p2), .val (.long q3), .second, .val (.int p4), .val (.int p5), .val (.int x101), .val (.int x102), .val (.int x104), .val (.int x106), .val (.int x108), .val (.int x110), .val (.int x112), .val (.int x114), .val (.int x116), .unset, .unset, .unset, .unset, .unset] [(.int x110), (.int (4 : Int32)), (.ref b161), (.ref b161)]))
          obtain ⟨T175, h175, X175, e175, W175, A175, st175⟩ := stoI X172 hx hZ e172 f174 (j := (4 : Int32)) (by decide) (i := 4) (by decide) (Nat.le_of_ble_eq_true rfl) (g := (mkF m 233 #[.val (.int p1), .val (.int p2), .val (.long q3), .second, .val (.int p4), .val (.int p5), .val (.int x101), .val (.int x102), .val (.int x104), .val (.int x106), .val (.int x108), .val (.int x110), .val (.int x112), .val (.int x114), .val (.int x116), .unset, .unset, .unset, .unset, .unset] [(.int x110), (.int (4 : Int32)), (.ref b161), (.ref b161)])) rfl rfl (hb hby at_233)
          have f176 : Exa Z h175 b161 "[I" := f173.wr W175
          have f177 : Ax Z h175 b161 .int [(.int x102), (.int x104), (.int x106), (.int x108), (.int x110), (.int (0 : Int32)), (.int (0 : Int32)), (.int (0 : Int32))] := A175
          have Z175 : n0 ≤ h175.size := Nat.le_trans Z172 (Keep.of_wr W175).1
          have N175 := Fr.snoc X175 N172 g_b161
          refine DoneW.step st175 ?_
          show DoneW p e below s _ _ _ (T175.setTop (mkF m 234 #[.val (.int p1), .val (.int p2), .val (.long q3), .second, .val (.int p4), .val (.int p5), .val (.int x101), .val (.int x102), .val (.int x104), .val (.int x106), .val (.int x108), .val (.int x110), .val (.int x112), .val (.int x114), .val (.int x116), .unset, .unset, .unset, .unset, .unset] [(.ref b161)]))
          refine DoneW.step (fun t k => XS.dup X175.here hx rfl (hb hby at_234) rfl rfl k) ?_
          show DoneW p e below s _ _ _ (T175.setTop (mkF m 235 #[.val (.int p1), .val (.int p2), .val (.long q3), .second, .val (.int p4), .val (.int p5), .val (.int x101), .val (.int x102), .val (.int x104), .val (.int x106), .val (.int x108), .val (.int x110), .val (.int x112), .val (.int x114), .val (.int x116), .unset, .unset, .unset, .unset, .unset] [(.ref b161), (.ref b161)]))
          refine DoneW.step (fun t k => XS.iconst X175.here hx rfl (hb hby at_235) k) ?_
          show DoneW p e below s _ _ _ (T175.setTop (mkF m 236 #[.val (.int p1), .val (.int p2), .val (.long q3), .second, .val (.int p4), .val (.int p5), .val (.int x101), .val (.int x102), .val (.int x104), .val (.int x106), .val (.int x108), .val (.int x110), .val (.int x112), .val (.int x114), .val (.int x116), .unset, .unset, .unset, .unset, .unset] [(.int (5 : Int32)), (.ref b161), (.ref b161)]))
          refine DoneW.step (fun t k => XS.iload X175.here hx rfl (hb hby at_236) rfl k) ?_
          show DoneW p e below s _ _ _ (T175.setTop (mkF m 238 #[.val (.int p1), .val (.int p2), .val (.long q3), .second, .val (.int p4), .val (.int p5), .val (.int x101), .val (.int x102), .val (.int x104), .val (.int x106), .val (.int x108), .val (.int x110), .val (.int x112), .val (.int x114), .val (.int x116), .unset, .unset, .unset, .unset, .unset] [(.int x112), (.int (5 : Int32)), (.ref b161), (.ref b161)]))
          obtain ⟨T178, h178, X178, e178, W178, A178, st178⟩ := stoI X175 hx hZ e175 f177 (j := (5 : Int32)) (by decide) (i := 5) (by decide) (Nat.le_of_ble_eq_true rfl) (g := (mkF m 238 #[.val (.int p1), .val (.int p2), .val (.long q3), .second, .val (.int p4), .val (.int p5), .val (.int x101), .val (.int x102), .val (.int x104), .val (.int x106), .val (.int x108), .val (.int x110), .val (.int x112), .val (.int x114), .val (.int x116), .unset, .unset, .unset, .unset, .unset] [(.int x112), (.int (5 : Int32)), (.ref b161), (.ref b161)])) rfl rfl (hb hby at_238)
          have f179 : Exa Z h178 b161 "[I" := f176.wr W178
          have f180 : Ax Z h178 b161 .int [(.int x102), (.int x104), (.int x106), (.int x108), (.int x110), (.int x112), (.int (0 : Int32)), (.int (0 : Int32))] := A178
          have Z178 : n0 ≤ h178.size := Nat.le_trans Z175 (Keep.of_wr W178).1
          have N178 := Fr.snoc X178 N175 g_b161
          refine DoneW.step st178 ?_
          show DoneW p e below s _ _ _ (T178.setTop (mkF m 239 #[.val (.int p1), .val (.int p2), .val (.long q3), .second, .val (.int p4), .val (.int p5), .val (.int x101), .val (.int x102), .val (.int x104), .val (.int x106), .val (.int x108), .val (.int x110), .val (.int x112), .val (.int x114), .val (.int x116), .unset, .unset, .unset, .unset, .unset] [(.ref b161)]))
          refine DoneW.step (fun t k => XS.dup X178.here hx rfl (hb hby at_239) rfl rfl k) ?_
          show DoneW p e below s _ _ _ (T178.setTop (mkF m 240 #[.val (.int p1), .val (.int p2), .val (.long q3), .second, .val (.int p4), .val (.int p5), .val (.int x101), .val (.int x102), .val (.int x104), .val (.int x106), .val (.int x108), .val (.int x110), .val (.int x112), .val (.int x114), .val (.int x116), .unset, .unset, .unset, .unset, .unset] [(.ref b161), (.ref b161)]))
          refine DoneW.step (fun t k => XS.bipush X178.here hx rfl (hb hby at_240) k) ?_
          show DoneW p e below s _ _ _ (T178.setTop (mkF m 242 #[.val (.int p1), .val (.int p2), .val (.long q3), .second, .val (.int p4), .val (.int p5), .val (.int x101), .val (.int x102), .val (.int x104), .val (.int x106), .val (.int x108), .val (.int x110), .val (.int x112), .val (.int x114), .val (.int x116), .unset, .unset, .unset, .unset, .unset] [(.int (6 : Int32)), (.ref b161), (.ref b161)]))
          refine DoneW.step (fun t k => XS.iload X178.here hx rfl (hb hby at_242) rfl k) ?_
          show DoneW p e below s _ _ _ (T178.setTop (mkF m 244 #[.val (.int p1), .val (.int p2), .val (.long q3), .second, .val (.int p4), .val (.int p5), .val (.int x101), .val (.int x102), .val (.int x104), .val (.int x106), .val (.int x108), .val (.int x110), .val (.int x112), .val (.int x114), .val (.int x116), .unset, .unset, .unset, .unset, .unset] [(.int x114), (.int (6 : Int32)), (.ref b161), (.ref b161)]))
          obtain ⟨T181, h181, X181, e181, W181, A181, st181⟩ := stoI X178 hx hZ e178 f180 (j := (6 : Int32)) (by decide) (i := 6) (by decide) (Nat.le_of_ble_eq_true rfl) (g := (mkF m 244 #[.val (.int p1), .val (.int p2), .val (.long q3), .second, .val (.int p4), .val (.int p5), .val (.int x101), .val (.int x102), .val (.int x104), .val (.int x106), .val (.int x108), .val (.int x110), .val (.int x112), .val (.int x114), .val (.int x116), .unset, .unset, .unset, .unset, .unset] [(.int x114), (.int (6 : Int32)), (.ref b161), (.ref b161)])) rfl rfl (hb hby at_244)
          have f182 : Exa Z h181 b161 "[I" := f179.wr W181
          have f183 : Ax Z h181 b161 .int [(.int x102), (.int x104), (.int x106), (.int x108), (.int x110), (.int x112), (.int x114), (.int (0 : Int32))] := A181
          have Z181 : n0 ≤ h181.size := Nat.le_trans Z178 (Keep.of_wr W181).1
          have N181 := Fr.snoc X181 N178 g_b161
          refine DoneW.step st181 ?_
          show DoneW p e below s _ _ _ (T181.setTop (mkF m 245 #[.val (.int p1), .val (.int p2), .val (.long q3), .second, .val (.int p4), .val (.int p5), .val (.int x101), .val (.int x102), .val (.int x104), .val (.int x106), .val (.int x108), .val (.int x110), .val (.int x112), .val (.int x114), .val (.int x116), .unset, .unset, .unset, .unset, .unset] [(.ref b161)]))
          refine DoneW.step (fun t k => XS.dup X181.here hx rfl (hb hby at_245) rfl rfl k) ?_
          show DoneW p e below s _ _ _ (T181.setTop (mkF m 246 #[.val (.int p1), .val (.int p2), .val (.long q3), .second, .val (.int p4), .val (.int p5), .val (.int x101), .val (.int x102), .val (.int x104), .val (.int x106), .val (.int x108), .val (.int x110), .val (.int x112), .val (.int x114), .val (.int x116), .unset, .unset, .unset, .unset, .unset] [(.ref b161), (.ref b161)]))
          refine DoneW.step (fun t k => XS.bipush X181.here hx rfl (hb hby at_246) k) ?_
          show DoneW p e below s _ _ _ (T181.setTop (mkF m 248 #[.val (.int p1), .val (.int p2), .val (.long q3), .second, .val (.int p4), .val (.int p5), .val (.int x101), .val (.int x102), .val (.int x104), .val (.int x106), .val (.int x108), .val (.int x110), .val (.int x112), .val (.int x114), .val (.int x116), .unset, .unset, .unset, .unset, .unset] [(.int (7 : Int32)), (.ref b161), (.ref b161)]))
          refine DoneW.step (fun t k => XS.iload X181.here hx rfl (hb hby at_248) rfl k) ?_
          show DoneW p e below s _ _ _ (T181.setTop (mkF m 250 #[.val (.int p1), .val (.int p2), .val (.long q3), .second, .val (.int p4), .val (.int p5), .val (.int x101), .val (.int x102), .val (.int x104), .val (.int x106), .val (.int x108), .val (.int x110), .val (.int x112), .val (.int x114), .val (.int x116), .unset, .unset, .unset, .unset, .unset] [(.int x116), (.int (7 : Int32)), (.ref b161), (.ref b161)]))
          obtain ⟨T184, h184, X184, e184, W184, A184, st184⟩ := stoI X181 hx hZ e181 f183 (j := (7 : Int32)) (by decide) (i := 7) (by decide) (Nat.le_of_ble_eq_true rfl) (g := (mkF m 250 #[.val (.int p1), .val (.int p2), .val (.long q3), .second, .val (.int p4), .val (.int p5), .val (.int x101), .val (.int x102), .val (.int x104), .val (.int x106), .val (.int x108), .val (.int x110), .val (.int x112), .val (.int x114), .val (.int x116), .unset, .unset, .unset, .unset, .unset] [(.int x116), (.int (7 : Int32)), (.ref b161), (.ref b161)])) rfl rfl (hb hby at_250)
          have f185 : Exa Z h184 b161 "[I" := f182.wr W184
          have f186 : Ax Z h184 b161 .int [(.int x102), (.int x104), (.int x106), (.int x108), (.int x110), (.int x112), (.int x114), (.int x116)] := A184
          have Z184 : n0 ≤ h184.size := Nat.le_trans Z181 (Keep.of_wr W184).1
          have N184 := Fr.snoc X184 N181 g_b161
          refine DoneW.step st184 ?_
          show DoneW p e below s _ _ _ (T184.setTop (mkF m 251 #[.val (.int p1), .val (.int p2), .val (.long q3), .second, .val (.int p4), .val (.int p5), .val (.int x101), .val (.int x102), .val (.int x104), .val (.int x106), .val (.int x108), .val (.int x110), .val (.int x112), .val (.int x114), .val (.int x116), .unset, .unset, .unset, .unset, .unset] [(.ref b161)]))
          refine DoneW.step (fun t k => XS.astore X184.here hx rfl (hb hby at_251) rfl rfl (l' := #[.val (.int p1), .val (.int p2), .val (.long q3), .second, .val (.int p4), .val (.int p5), .val (.int x101), .val (.int x102), .val (.int x104), .val (.int x106), .val (.int x108), .val (.int x110), .val (.int x112), .val (.int x114), .val (.int x116), .val (.ref b161), .unset, .unset, .unset, .unset]) rfl k) ?_
          show DoneW p e below s _ _ _ (T184.setTop (mkF m 253 #[.val (.int p1), .val (.int p2), .val (.long q3), .second, .val (.int p4), .val (.int p5), .val (.int x101), .val (.int x102), .val (.int x104), .val (.int x106), .val (.int x108), .val (.int x110), .val (.int x112), .val (.int x114), .val (.int x116), .val (.ref b161), .unset, .unset, .unset, .unset] []))
          exact blk253 p1 p2 q3 p4 p5 x101 x102 x104 x106 x108 x110 x112 x114 x116 b161 [(.int x102), (.int x104), (.int x106), (.int x108), (.int x110), (.int x112), (.int x114), (.int x116)] (X184.mono (by decide) (by decide)) hx hZ hw hby hml hown hlk hret hnm N184 Z184 e184 f186 (own_cov4 (own_n dx101 c1 c2 c3 c4) (own_chain dx102 dx104 dx106 dx108 dx110 dx112 dx114 dx116))
set_option maxRecDepth 65536 in
set_option maxHeartbeats 40000000 in
theorem comes_1 {Post : Tables → Env → Array Value → State → Outcome → State → Prop} (hpost : ∀ tb e args s v u, (limb_1_1.after args s (.returned v) u = true ∧ limb_1_2.after args s (.returned v) u = true ∧ True) → ReturnedEndW s (.returned v) u (Jvm.fieldLocs frame_1_writes args s ++ Jvm.arrayLocs frame_1_arrays args s ++ Jvm.staticLocs frame_1_statics s) 24 2176 → Post tb e args s (.returned v) u) :
    ArmFor flags0 classFile x code maxLocals ret World_1 tables_1 room_1 Calls_1 rest_1 Pre_1 Post := by
  intro l hfl _ _ p e ha hc hk s m args below hf hA hF happ hP
  obtain ⟨hcalls, hrest, hpre⟩ := hP
  obtain ⟨-, -, -, hnamed, -, -, -, hat⟩ := (Spec.applies_iff hf).mp happ
  obtain ⟨hg, hn⟩ := and_e (Cond.before_iff.mp (show (Jvm.Cond.and given_1 narrow_1).before args s = true from hpre))
  obtain ⟨hcnt, g0⟩ := and_e hg
  obtain ⟨u0, g1⟩ := and_e g0
  obtain ⟨u1, g2⟩ := and_e g1
  obtain ⟨u2, g3⟩ := and_e g2
  obtain ⟨u3, g4⟩ := and_e g3
  have u4 := g4
  obtain ⟨w0, w1, w2, w3, w4, rfl⟩ : ∃ w0 w1 w2 w3 w4 : Value, args = #[w0, w1, w2, w3, w4] := by
    have hs : args.size = 5 := by simpa [Cond.value, given_1] using hcnt
    obtain ⟨L⟩ := args
    match L, hs with
    | [w0, w1, w2, w3, w4], _ => exact ⟨w0, w1, w2, w3, w4, rfl⟩
  have hw := fun d (hd : d ∈ tables_1) => atoms_spec (ws := Jvm.Cond.code x code maxLocals ret :: tables_1) hat d (List.mem_cons_of_mem _ hd)
  have hfit : Fit s := fun {y c} hc i hi => by
    obtain ⟨ha, rfl⟩ := Array.getElem?_eq_some_iff.mp hc
    have q := List.all_eq_true.mp ((Array.all_eq_true_iff_forall_mem.mp hF) _ (Array.getElem_mem ha)) i (List.mem_range.mpr hi)
    simpa [Array.getElem?_eq_getElem hi] using q
  obtain ⟨i0, ei0⟩ := is_v u0
  obtain rfl : w0 = (.int i0) := Option.some.inj ei0
  obtain ⟨i1, ei1⟩ := is_v u1
  obtain rfl : w1 = (.int i1) := Option.some.inj ei1
  obtain ⟨i2, ei2⟩ := isL_v u2
  obtain rfl : w2 = (.long i2) := Option.some.inj ei2
  obtain ⟨i3, ei3⟩ := is_v u3
  obtain rfl : w3 = (.int i3) := Option.some.inj ei3
  obtain ⟨i4, ei4⟩ := is_v u4
  obtain rfl : w4 = (.int i4) := Option.some.inj ei4
  obtain ⟨n, o, h1, h2, h3, _, L, rfl, ⟨rfl, N⟩, hq⟩ := rm0 l s _ hw tables_1 i0 i1 i2 i3 i4 s.heap s.heap.size (Nat.le_refl _) p e ha hc hk s m _ below hf ((Spec.applies_iff_loose hf).mp happ).1 ⟨rfl, State.Warmed39.refl s, rfl⟩ trivial
  refine ⟨n, _, h1, h2, h3, hpost _ _ _ _ _ _ ⟨Cond.after_iff.mpr rfl, Cond.after_iff.mpr (eq_i res_at (Term.int_eval (1)) rfl), trivial⟩ ⟨hq.1, hq.2.1, hq.2.2.1, (hq.2.2.2.sift fun y hy => Or.inr (N y hy)).mono (by decide) (by decide)⟩⟩
theorem main_1_1 : Claimed_1_1 := comes_1 fun _ _ _ _ _ _ h hF => ⟨h.1, hF⟩
theorem main_1_2 : Claimed_1_2 := comes_1 fun _ _ _ _ _ _ h hF => ⟨h.2.1, hF⟩
end Jvm.Pilot.@@N@@
namespace Jvm.Pilot.@@N@@
open Jvm Jvm.ClassFile Sem Op Lib Jvm.Free Jvm.Stand Jvm.Pilot.@@N@@.Jvm.D
/-! MADE BY PROGRAM (witnessworld.py) out of the Statement's table words and the real class files: 14 classes; the members and pool entries that the words name. The judged class is class 1, her method 2. -/
namespace start1
open Jvm.ClassFile
def u (s : String) : CpInfo := .utf8 (stringToUtf16 s)
/-- a pool by its gaps: so many unusable entries, then the entry; so many at the end -/
def gap : Nat → List CpInfo → List CpInfo
  | 0, r => r
  | n + 1, r => .unusable :: gap n r
def poolList (es : List (Nat × CpInfo)) (last : Nat) : List CpInfo := es.foldr (fun e r => gap e.1 (e.2 :: r)) (gap last [])
def pool (es : List (Nat × CpInfo)) (last : Nat) : Array CpInfo := ⟨poolList es last⟩
def fileOf (pool : Array CpInfo) (this : Nat) (attrs : Array Attribute := #[]) (ms : Array MethodInfo := #[]) (fl : Nat := 33) (sup : Nat := 0) (ifs : Array Nat := #[]) (fds : Array FieldInfo := #[]) : ClassFile where
  minorVersion := 0
  majorVersion := 65
  constantPool := pool
  accessFlags := fl
  thisClass := this
  superClass := sup
  interfaces := ifs
  fields := fds
  methods := ms
  attributes := attrs
def plain (name : String) (sup : Option ClassId) : Class where
  name := name
  kind := .ordinary
  loader := none
  accessFlags := 33
  super := sup
  interfaces := #[]
  cf := none
  fields := #[]
  methods := #[]
  instanceTypes := #[]
  staticTypes := #[]
  resolved := #[]
  callSites := []
  init := .initialized
  statics := none
  mirror := none

def pool0 : Array CpInfo := pool [(5, u "<init>"), (0, u "()V"), (1, .class_ 10), (1, u "java/lang/Object")] 113

def k0c0 : Code := { maxStack := 0, maxLocals := 1, code := object_method_1_code, exceptionTable := #[], attributes := #[] }
def k0m0 : Method := { name := "<init>", desc := "()V", sig := { parameters := [], returnType := none }, accessFlags := 1, code := some k0c0 }
/-- java/lang/Object -/
def k0 : Class := { plain "java/lang/Object" none with
  accessFlags := 33
  interfaces := #[]
  cf := some (fileOf pool0 8 #[] #[{ accessFlags := 1, nameIndex := 5, descriptorIndex := 6, attributes := #[] }] 33 0 #[] #[])
  fields := #[]
  methods := #[k0m0]
  instanceTypes := #[]
  staticTypes := #[]
  resolved := Array.replicate 124 none
  statics := none }

def pool1 : Array CpInfo := pool [(2, .class_ 4), (1, u "java/lang/Object"), (0, u "<init>"), (0, u "()V"), (0, .long 511), (1, .integer 2147483647), (0, .methodref 11 12), (0, .class_ 13), (0, .nameAndType 14 15), (0, u "com/example/ruled_ledger/ruledledger/model/CatchHandlerCoversCodeOfPinLaw"), (0, u "f"), (0, u "(JI)I"), (0, .class_ 17), (0, u "com/example/ruled_ledger/ruledledger/model/CatchHandler"), (0, .string 19), (0, u "java.lang.Throwable"), (0, .methodref 16 21), (0, .nameAndType 5 22), (0, u "(Ljava/lang/String;ZI[I)V"), (0, .string 24), (0, u "java.lang.Exception"), (0, .methodref 16 26), (0, .nameAndType 27 28), (0, u "coversCodeOf"), (0, u "(Lcom/example/ruled_ledger/ruledledger/model/CatchHandler;)Z"), (2, u "law"), (0, u "(IIJII)Z")] 7

def k1m0 : Method := { name := "<init>", desc := "()V", sig := { parameters := [], returnType := none }, accessFlags := 1, code := none }
def k1c1 : Code := { maxStack := 4, maxLocals := 3, code := method_2_code, exceptionTable := #[], attributes := #[] }
def k1m1 : Method := { name := "f", desc := "(JI)I", sig := { parameters := [.long, .int], returnType := some .int }, accessFlags := 10, code := some k1c1 }
def k1c2 : Code := { maxStack := 6, maxLocals := 20, code := code, exceptionTable := #[], attributes := #[] }
def k1m2 : Method := { name := "law", desc := "(IIJII)Z", sig := { parameters := [.int, .int, .long, .int, .int], returnType := some .boolean }, accessFlags := 9, code := some k1c2 }
/-- com/example/ruled_ledger/ruledledger/model/CatchHandlerCoversCodeOfPinLaw -/
def k1 : Class := { plain "com/example/ruled_ledger/ruledledger/model/CatchHandlerCoversCodeOfPinLaw" (some 0) with
  accessFlags := 49
  interfaces := #[]
  cf := some (fileOf pool1 11 #[] #[{ accessFlags := 1, nameIndex := 5, descriptorIndex := 6, attributes := #[] }, { accessFlags := 10, nameIndex := 14, descriptorIndex := 15, attributes := #[] }, { accessFlags := 9, nameIndex := 31, descriptorIndex := 32, attributes := #[] }] 49 2 #[] #[])
  fields := #[]
  methods := #[k1m0, k1m1, k1m2]
  instanceTypes := #[]
  staticTypes := #[]
  resolved := Array.replicate 40 none
  statics := none }

def pool2 : Array CpInfo := pool [(1, .methodref 2 3), (0, .class_ 4), (0, .nameAndType 5 6), (0, u "java/lang/Object"), (0, u "<init>"), (0, u "()V"), (0, .fieldref 8 9), (0, .class_ 10), (0, .nameAndType 11 12), (0, u "com/example/ruled_ledger/ruledledger/model/CatchHandler"), (0, u "caughtClass"), (0, u "Ljava/lang/String;"), (0, .fieldref 8 14), (0, .nameAndType 15 16), (0, u "canEndWithoutThrowing"), (0, u "Z"), (0, .fieldref 8 18), (0, .nameAndType 19 20), (0, u "codeStart"), (0, u "I"), (0, .fieldref 8 22), (0, .nameAndType 23 24), (0, u "ranges"), (0, u "[I"), (0, u "(Ljava/lang/String;ZI[I)V"), (5, u "coversCodeOf"), (0, u "(Lcom/example/ruled_ledger/ruledledger/model/CatchHandler;)Z")] 3

def k2c0 : Code := { maxStack := 2, maxLocals := 5, code := prog_13_method_1_code, exceptionTable := #[], attributes := #[] }
def k2m0 : Method := { name := "<init>", desc := "(Ljava/lang/String;ZI[I)V", sig := { parameters := [(.object "java/lang/String"), .boolean, .int, (.array .int)], returnType := none }, accessFlags := 1, code := some k2c0 }
def k2c1 : Code := { maxStack := 4, maxLocals := 5, code := prog_13_method_4_code, exceptionTable := #[], attributes := #[] }
def k2m1 : Method := { name := "coversCodeOf", desc := "(Lcom/example/ruled_ledger/ruledledger/model/CatchHandler;)Z", sig := { parameters := [(.object "com/example/ruled_ledger/ruledledger/model/CatchHandler")], returnType := some .boolean }, accessFlags := 1, code := some k2c1 }
/-- com/example/ruled_ledger/ruledledger/model/CatchHandler -/
def k2 : Class := { plain "com/example/ruled_ledger/ruledledger/model/CatchHandler" (some 0) with
  accessFlags := 33
  interfaces := #[]
  cf := some (fileOf pool2 8 #[] #[{ accessFlags := 1, nameIndex := 5, descriptorIndex := 25, attributes := #[] }, { accessFlags := 1, nameIndex := 31, descriptorIndex := 32, attributes := #[] }] 33 2 #[] #[{ accessFlags := 18, nameIndex := 11, descriptorIndex := 12, attributes := #[] }, { accessFlags := 18, nameIndex := 15, descriptorIndex := 16, attributes := #[] }, { accessFlags := 18, nameIndex := 19, descriptorIndex := 20, attributes := #[] }, { accessFlags := 18, nameIndex := 23, descriptorIndex := 24, attributes := #[] }])
  fields := #[{ name := "caughtClass", type := (.object "java/lang/String"), accessFlags := 18, slot := 0, constantValue := 0 }, { name := "canEndWithoutThrowing", type := .boolean, accessFlags := 18, slot := 1, constantValue := 0 }, { name := "codeStart", type := .int, accessFlags := 18, slot := 2, constantValue := 0 }, { name := "ranges", type := (.array .int), accessFlags := 18, slot := 3, constantValue := 0 }]
  methods := #[k2m0, k2m1]
  instanceTypes := #[(.object "java/lang/String"), .boolean, .int, (.array .int)]
  staticTypes := #[]
  resolved := Array.replicate 36 none
  statics := none }

def pool3 : Array CpInfo := pool [(1, .class_ 2), (0, u "java/io/Serializable"), (0, .class_ 4), (0, u "java/lang/Object")] 2

/-- java/io/Serializable -/
def k3 : Class := { plain "java/io/Serializable" (some 0) with
  accessFlags := 1537
  interfaces := #[]
  cf := some (fileOf pool3 1 #[] #[] 1537 3 #[] #[])
  fields := #[]
  methods := #[]
  instanceTypes := #[]
  staticTypes := #[]
  resolved := Array.replicate 7 none
  statics := none }

def pool4 : Array CpInfo := pool [(1, .class_ 2), (0, u "java/lang/Comparable"), (0, .class_ 4), (0, u "java/lang/Object")] 7

/-- java/lang/Comparable -/
def k4 : Class := { plain "java/lang/Comparable" (some 0) with
  accessFlags := 1537
  interfaces := #[]
  cf := some (fileOf pool4 1 #[] #[] 1537 3 #[] #[])
  fields := #[]
  methods := #[]
  instanceTypes := #[]
  staticTypes := #[]
  resolved := Array.replicate 12 none
  statics := none }

def pool5 : Array CpInfo := pool [(2, .class_ 4), (1, u "java/lang/CharSequence"), (42, .class_ 48), (0, u "java/lang/CharSequence$1CodePointIterator"), (10, .class_ 60), (0, u "java/lang/CharSequence$1CharIterator"), (5, .class_ 67), (0, u "java/lang/Object")] 63

/-- java/lang/CharSequence -/
def k5 : Class := { plain "java/lang/CharSequence" (some 0) with
  accessFlags := 1537
  interfaces := #[]
  cf := some (fileOf pool5 2 #[.nestMembers #[47, 59]] #[] 1537 66 #[] #[])
  fields := #[]
  methods := #[]
  instanceTypes := #[]
  staticTypes := #[]
  resolved := Array.replicate 131 none
  statics := none }

def pool6 : Array CpInfo := pool [(1, .class_ 2), (0, u "java/lang/constant/Constable"), (0, .class_ 4), (0, u "java/lang/Object")] 6

/-- java/lang/constant/Constable -/
def k6 : Class := { plain "java/lang/constant/Constable" (some 0) with
  accessFlags := 1537
  interfaces := #[]
  cf := some (fileOf pool6 1 #[] #[] 1537 3 #[] #[])
  fields := #[]
  methods := #[]
  instanceTypes := #[]
  staticTypes := #[]
  resolved := Array.replicate 11 none
  statics := none }

def pool7 : Array CpInfo := pool [(1, .class_ 2), (0, u "java/lang/constant/ConstantDesc"), (0, .class_ 4), (0, u "java/lang/Object")] 32

/-- java/lang/constant/ConstantDesc -/
def k7 : Class := { plain "java/lang/constant/ConstantDesc" (some 0) with
  accessFlags := 1537
  interfaces := #[]
  cf := some (fileOf pool7 1 #[] #[] 1537 3 #[] #[])
  fields := #[]
  methods := #[]
  instanceTypes := #[]
  staticTypes := #[]
  resolved := Array.replicate 37 none
  statics := none }

def pool8 : Array CpInfo := pool [(2, .class_ 4), (1, u "java/lang/Object"), (0, u "<init>"), (0, u "()V"), (3, .class_ 12), (1, u "java/lang/String"), (0, u "value"), (0, u "[B"), (2, u "coder"), (0, u "B"), (2, u "hash"), (0, u "I"), (2, u "hashIsZero"), (0, u "Z"), (13, u "COMPACT_STRINGS"), (534, .class_ 576), (0, u "java/lang/CharSequence"), (22, u "CASE_INSENSITIVE_ORDER"), (0, u "Ljava/util/Comparator;"), (500, u "serialPersistentFields"), (0, u "[Ljava/io/ObjectStreamField;"), (0, .class_ 1104), (0, u "java/lang/String$CaseInsensitiveComparator"), (1, .class_ 1107), (0, u "java/io/Serializable"), (0, .class_ 1109), (0, u "java/lang/Comparable"), (0, .class_ 1111), (0, u "java/lang/constant/Constable"), (0, .class_ 1113), (0, u "java/lang/constant/ConstantDesc"), (2, u "serialVersionUID"), (0, u "J"), (3, u "REPL"), (0, u "C"), (2, u "LATIN1"), (1, u "UTF16")] 323

def k8m0 : Method := { name := "<init>", desc := "()V", sig := { parameters := [], returnType := none }, accessFlags := 1, code := none }
/-- java/lang/String -/
def k8 : Class := { plain "java/lang/String" (some 0) with
  accessFlags := 49
  interfaces := #[3, 4, 5, 6, 7]
  cf := some (fileOf pool8 10 #[.nestMembers #[1103]] #[{ accessFlags := 1, nameIndex := 5, descriptorIndex := 6, attributes := #[] }] 49 2 #[1106, 1108, 575, 1110, 1112] #[{ accessFlags := 18, nameIndex := 13, descriptorIndex := 14, attributes := #[] }, { accessFlags := 18, nameIndex := 17, descriptorIndex := 18, attributes := #[] }, { accessFlags := 2, nameIndex := 21, descriptorIndex := 22, attributes := #[] }, { accessFlags := 2, nameIndex := 25, descriptorIndex := 26, attributes := #[] }, { accessFlags := 26, nameIndex := 1116, descriptorIndex := 1117, attributes := #[] }, { accessFlags := 24, nameIndex := 40, descriptorIndex := 26, attributes := #[] }, { accessFlags := 26, nameIndex := 1101, descriptorIndex := 1102, attributes := #[] }, { accessFlags := 26, nameIndex := 1121, descriptorIndex := 1122, attributes := #[] }, { accessFlags := 25, nameIndex := 599, descriptorIndex := 600, attributes := #[] }, { accessFlags := 24, nameIndex := 1125, descriptorIndex := 18, attributes := #[] }, { accessFlags := 24, nameIndex := 1127, descriptorIndex := 18, attributes := #[] }])
  fields := #[{ name := "value", type := (.array .byte), accessFlags := 18, slot := 0, constantValue := 0 }, { name := "coder", type := .byte, accessFlags := 18, slot := 1, constantValue := 0 }, { name := "hash", type := .int, accessFlags := 2, slot := 2, constantValue := 0 }, { name := "hashIsZero", type := .boolean, accessFlags := 2, slot := 3, constantValue := 0 }, { name := "serialVersionUID", type := .long, accessFlags := 26, slot := 0, constantValue := 0 }, { name := "COMPACT_STRINGS", type := .boolean, accessFlags := 24, slot := 1, constantValue := 0 }, { name := "serialPersistentFields", type := (.array (.object "java/io/ObjectStreamField")), accessFlags := 26, slot := 2, constantValue := 0 }, { name := "REPL", type := .char, accessFlags := 26, slot := 3, constantValue := 0 }, { name := "CASE_INSENSITIVE_ORDER", type := (.object "java/util/Comparator"), accessFlags := 25, slot := 4, constantValue := 0 }, { name := "LATIN1", type := .byte, accessFlags := 24, slot := 5, constantValue := 0 }, { name := "UTF16", type := .byte, accessFlags := 24, slot := 6, constantValue := 0 }]
  methods := #[k8m0]
  instanceTypes := #[(.array .byte), .byte, .int, .boolean]
  staticTypes := #[.long, .boolean, (.array (.object "java/io/ObjectStreamField")), .char, (.object "java/util/Comparator"), .byte, .byte]
  resolved := Array.replicate 1451 none
  statics := none }

def pool9 : Array CpInfo := pool [(1, u "java/lang/Cloneable"), (0, .class_ 1), (0, u "java/lang/Object"), (0, .class_ 3)] 3

/-- java/lang/Cloneable -/
def k9 : Class := { plain "java/lang/Cloneable" (some 0) with
  accessFlags := 1537
  interfaces := #[]
  cf := some (fileOf pool9 2 #[] #[] 1537 4 #[] #[])
  fields := #[]
  methods := #[]
  instanceTypes := #[]
  staticTypes := #[]
  resolved := Array.replicate 8 none
  statics := none }

/-- the primitive byte -/
def k10 : Class := { plain "byte" none with kind := .primitive 'B', accessFlags := 0x411 }
/-- [B -/
def k11 : Class := { plain "[B" (some 0) with kind := .array 10 .byte, interfaces := #[9, 3], accessFlags := 1041 }

/-- the primitive int -/
def k12 : Class := { plain "int" none with kind := .primitive 'I', accessFlags := 0x411 }
/-- [I -/
def k13 : Class := { plain "[I" (some 0) with kind := .array 12 .int, interfaces := #[9, 3], accessFlags := 1041 }

def heap : Heap := #[]
def classes : Array Class := #[k0, k1, k2, k3, k4, k5, k6, k7, k8, k9, k10, k11, k12, k13]
def interned : List (Array UInt16 × Addr) := []
def slotsUsed : Nat := 0
def theMethod : MethodId := ⟨1, 2⟩
def args0 : Array Value := #[.int 100, .int 3, .long 12345678901, .int 7, .int 5]
def aboutOver (below : List Frame) : State where
  vm := { classes := classes, interned := interned.toArray }
  heap := heap
  slotsUsed := slotsUsed
  threads := #[{ frames := .invoking theMethod args0 :: below }]
def below0 : List Frame := [.native { method := ⟨0, 0⟩, args := #[] }]
def about1 : State := aboutOver below0
def p0 : Program := .bare "" "" ""
def e0 : Env := launch0.env 0 0 0
theorem w_frames : about1.frames = Frame.invoking theMethod args0 :: below0 := rfl
set_option maxRecDepth 65536 in
theorem w_args : argsFit about1.vm theMethod args0 = true := by decide +kernel
set_option maxRecDepth 65536 in
theorem w_heap : heapFits about1 = true := by decide +kernel
set_option maxRecDepth 65536 in
theorem w_runnable : about1.curStatus? = some .runnable := by decide +kernel
set_option maxRecDepth 65536 in
theorem w_alone : about1.alone = true := by decide +kernel
set_option maxRecDepth 65536 in
theorem w_named : about1.methodNamed? x = some theMethod := by decide +kernel
set_option maxRecDepth 65536 in
theorem w_hears : about1.hears theMethod below0 = true := by decide +kernel
set_option maxRecDepth 65536 in
theorem w_ripe : about1.ripe theMethod args0 below0 = true := by decide +kernel
theorem w_running : about1.status = .running := rfl
set_option maxRecDepth 65536 in
theorem w_room : about1.hasRoom e0.platform room_1 = true :=
  launch0.hasRoom_least _ room_1 (by decide +kernel) (by decide +kernel) (by decide +kernel) (by decide +kernel) (by decide +kernel) (by decide +kernel)
theorem allAtoms_all (ts : List Jvm.Cond) (a : Array Jvm.Value) (st : Jvm.State) : (allAtoms ts).before a st = ts.all (fun c => c.before a st) := by
  induction ts with
  | nil => rfl
  | cons c t ih =>
    show (Jvm.Cond.and c (allAtoms t)).before a st = _
    rw [Jvm.Cond.before_and, ih, List.all_cons]
def words1 : List Jvm.Cond := Jvm.Cond.code x code maxLocals ret :: tables_1
/-- a 'code' word, met by the world's own term for the bytes: nothing is compared byte by byte -/
theorem code_word {y : MethodName} {bytes : ByteArray} {mx : Nat} {rt : Option FieldType} {a : Array Value} {s : State} {m : MethodId} {meth : Method} {c : Code} (h1 : s.methodNamed? y = some m) (h2 : s.vm.method? m = some meth) (h3 : meth.code = some c) (h4 : c.code = bytes)
    (h5 : (c.maxLocals == mx && c.exceptionTable.isEmpty && decide (c.maxStack ≤ mostOperands) && decide (meth.sig.returnType = rt) && !meth.locks && decide (parseMethodDescriptor y.desc = some meth.sig)) = true) : (Jvm.Cond.code y bytes mx rt).before a s = true := by
  simp only [Bool.and_eq_true, beq_iff_eq, Bool.not_eq_true', decide_eq_true_eq] at h5
  obtain ⟨⟨⟨⟨⟨g1, g2⟩, g3⟩, g4⟩, g5⟩, g6⟩ := h5
  simp [Cond.before, Cond.holds, Cond.value, h1, h2, h3, h4, g1, g2, g3, g4, g5, g6]
def isCode : Jvm.Cond → Bool
  | .code _ _ _ _ => true
  | _ => false
theorem all_split {L : List Jvm.Cond} {P : Jvm.Cond → Bool} (h1 : L.all (fun c => isCode c || P c) = true) (h2 : ∀ c ∈ L.filter isCode, P c = true) : L.all P = true := by
  refine List.all_eq_true.mpr fun c hc => ?_
  have h := List.all_eq_true.mp h1 c hc
  rcases Bool.eq_false_or_eq_true (isCode c) with hi | hi
  · exact h2 c (List.mem_filter.mpr ⟨hc, hi⟩)
  · simpa [hi] using h
set_option maxRecDepth 65536 in
theorem w_c0 : (Jvm.Cond.code x code maxLocals ret).before args0 about1 = true := code_word (m := ⟨1, 2⟩) (meth := k1m2) (c := k1c2) (by decide +kernel) rfl rfl rfl (by decide +kernel)
set_option maxRecDepth 65536 in
theorem w_c1 : (Jvm.Cond.code ({ cls := "com/example/ruled_ledger/ruledledger/model/CatchHandlerCoversCodeOfPinLaw", name := "f", desc := "(JI)I" } : Jvm.MethodName) method_2_code (3 : Nat) (Option.some Jvm.ClassFile.FieldType.int)).before args0 about1 = true := code_word (m := ⟨1, 1⟩) (meth := k1m1) (c := k1c1) (by decide +kernel) rfl rfl rfl (by decide +kernel)
set_option maxRecDepth 65536 in
theorem w_c2 : (Jvm.Cond.code ({ cls := "com/example/ruled_ledger/ruledledger/model/CatchHandler", name := "<init>", desc := "(Ljava/lang/String;ZI[I)V" } : Jvm.MethodName) prog_13_method_1_code (5 : Nat) (Option.none : Option Jvm.ClassFile.FieldType)).before args0 about1 = true := code_word (m := ⟨2, 0⟩) (meth := k2m0) (c := k2c0) (by decide +kernel) rfl rfl rfl (by decide +kernel)
set_option maxRecDepth 65536 in
theorem w_c3 : (Jvm.Cond.code ({ cls := "java/lang/Object", name := "<init>", desc := "()V" } : Jvm.MethodName) object_method_1_code (1 : Nat) (Option.none : Option Jvm.ClassFile.FieldType)).before args0 about1 = true := code_word (m := ⟨0, 0⟩) (meth := k0m0) (c := k0c0) (by decide +kernel) rfl rfl rfl (by decide +kernel)
set_option maxRecDepth 65536 in
theorem w_c4 : (Jvm.Cond.code ({ cls := "com/example/ruled_ledger/ruledledger/model/CatchHandler", name := "coversCodeOf", desc := "(Lcom/example/ruled_ledger/ruledledger/model/CatchHandler;)Z" } : Jvm.MethodName) prog_13_method_4_code (5 : Nat) (Option.some Jvm.ClassFile.FieldType.boolean)).before args0 about1 = true := code_word (m := ⟨2, 1⟩) (meth := k2m1) (c := k2c1) (by decide +kernel) rfl rfl rfl (by decide +kernel)
def codes1 : List Jvm.Cond := [Jvm.Cond.code x code maxLocals ret, Jvm.Cond.code ({ cls := "com/example/ruled_ledger/ruledledger/model/CatchHandlerCoversCodeOfPinLaw", name := "f", desc := "(JI)I" } : Jvm.MethodName) method_2_code (3 : Nat) (Option.some Jvm.ClassFile.FieldType.int), Jvm.Cond.code ({ cls := "com/example/ruled_ledger/ruledledger/model/CatchHandler", name := "<init>", desc := "(Ljava/lang/String;ZI[I)V" } : Jvm.MethodName) prog_13_method_1_code (5 : Nat) (Option.none : Option Jvm.ClassFile.FieldType), Jvm.Cond.code ({ cls := "java/lang/Object", name := "<init>", desc := "()V" } : Jvm.MethodName) object_method_1_code (1 : Nat) (Option.none : Option Jvm.ClassFile.FieldType), Jvm.Cond.code ({ cls := "com/example/ruled_ledger/ruledledger/model/CatchHandler", name := "coversCodeOf", desc := "(Lcom/example/ruled_ledger/ruledledger/model/CatchHandler;)Z" } : Jvm.MethodName) prog_13_method_4_code (5 : Nat) (Option.some Jvm.ClassFile.FieldType.boolean)]
set_option maxRecDepth 65536 in
theorem codes_eq : words1.filter isCode = codes1 := rfl
theorem w_codes : ∀ c ∈ words1.filter isCode, c.before args0 about1 = true := by
  rw [codes_eq]
  intro c hc
  simp only [codes1, List.mem_cons, List.not_mem_nil, or_false] at hc
  rcases hc with rfl | rfl | rfl | rfl | rfl
  · exact w_c0
  · exact w_c1
  · exact w_c2
  · exact w_c3
  · exact w_c4
set_option maxRecDepth 65536 in
theorem w_t1 : (words1.take 24).all (fun c => isCode c || c.before args0 about1) = true := by decide +kernel
set_option maxRecDepth 65536 in
theorem w_t2 : (words1.drop 24).all (fun c => isCode c || c.before args0 about1) = true := by decide +kernel
theorem w_tables : (allAtoms (Jvm.Cond.code x code maxLocals ret :: tables_1)).before args0 about1 = true := by
  rw [allAtoms_all]
  show words1.all (fun c => c.before args0 about1) = true
  refine all_split ?_ w_codes
  rw [← List.take_append_drop 24 words1, List.all_append, w_t1, w_t2]
  rfl
set_option maxRecDepth 65536 in
theorem w_case : (Jvm.Cond.and given_1 narrow_1).before args0 about1 = true := by decide +kernel
theorem w_applies : (headSpec (Jvm.Cond.code x code maxLocals ret :: tables_1) room_1).applies x e0.platform about1 = true :=
  (Spec.applies_iff w_frames).mpr ⟨w_running, w_runnable, w_alone, w_named, w_hears, w_ripe, w_room, w_tables⟩
theorem atStart : AtStart classFile x code maxLocals ret World_1 tables_1 room_1 Calls_1 rest_1 Pre_1 launch0 p0 e0 about1 theMethod args0 below0 :=
  ⟨lists_1, trivial, launch0.admits_env _ _ _, launch0.least_env, fairChoices_fair.cas, fairChoices_fair.clock, w_frames, w_args, w_heap, w_applies, trivial, trivial, w_case⟩
end start1
theorem witness_1 : WitnessClaimed_1 := ⟨start1.p0, start1.e0, start1.about1, start1.theMethod, start1.args0, start1.below0, start1.atStart⟩
end Jvm.Pilot.@@N@@
