import JvmDerived
import JvmDerived.Pilot.@@N@@Statement
import JvmDerived.Pilot.@@N@@Code
set_option linter.unusedVariables false
set_option linter.unusedSimpArgs false
namespace Jvm.RoadKit
open Sem ClassFile Op Lib Jvm.Stand Jvm.Free Jvm.LawKit
section New
variable {p : Program} {l : Launch} {e : Env} {R : Room} {s : State} {m : MethodId} {args : Array Value} {below : List Frame} {meth : Method} {c : Code} {T : State} {locs : List Loc} {cells slots : Nat}
theorem retI (X : Stand p l e R s m args below meth c T locs cells slots) (hx : p.tables.exec = Jvm.exec) {pc : Nat} {Ls : Array Slot} {z : Int32} {rest : List Value} (hret : meth.sig.returnType = some .int) (hd : decode c.code pc = .ok (.ireturn, 1)) {fs : List Frame}
    (hl : ∀ (f : JFrame) (acts : List Action), f.method = m → f.locked = none → f.entered = [] → (doReturn e (T.setTop f) acts (some (.int z))).1 = T.setFrames fs) : Steps p.tables e below (T.setTop (mkF m pc Ls (.int z :: rest))) (T.setFrames fs) := by
  have hm' : T.vm.method? m = some meth := X.method'
  have hn : narrow .int (.int z) = .int z := rfl
  show Steps p.tables e below (T.setTop { method := m, pc := pc, locals := Ls, stack := _ :: rest, locked := none }) _
  jvm_step X.here [X.here.top, hx, hd, hm', hret, hn]
  first | (intro acts; rw [hl _ acts rfl rfl rfl]) | rw [hl _ _ rfl rfl rfl]
  exact Steps.refl _
end New
end Jvm.RoadKit
namespace Jvm.Pilot.@@N@@
open Jvm Jvm.ClassFile Sem Op Lib Jvm.Free Jvm.Stand Jvm.LawKit Jvm.RoadKit Bundle Jvm.Pilot.@@N@@.Jvm.D
section OwnKit
/-- the rest of a body ends well: from the state U on it comes to its end, what it returns and leaves is as Q says -/
def Done (p : Program) (e : Env) (below : List Frame) (s : State) (Q : Option Value → Heap → List Loc → Prop) (C S : Nat) (U : State) : Prop :=
  ∃ s₂ o, Steps p.tables e below U s₂ ∧ s₂.status = .running ∧ Ended s₂ below o ∧ ∃ v L, o = .returned v ∧ Q v s₂.heap L ∧ FrameEnd s o s₂ L C S
variable {p : Program} {l : Launch} {e : Env} {R : Room} {s : State} {m : MethodId} {args : Array Value} {below : List Frame} {meth : Method} {c : Code} {T U U' : State} {locs : List Loc} {cells slots C S : Nat} {Q : Option Value → Heap → List Loc → Prop}
theorem Done.step (h : ∀ t, Steps p.tables e below U' t → Steps p.tables e below U t) (d : Done p e below s Q C S U') : Done p e below s Q C S U := by
  obtain ⟨s₂, o, h1, r⟩ := d
  exact ⟨s₂, o, h _ h1, r⟩
theorem Done.far (h : Steps p.tables e below U U') (d : Done p e below s Q C S U') : Done p e below s Q C S U := by
  obtain ⟨s₂, o, h1, r⟩ := d
  exact ⟨s₂, o, h.trans h1, r⟩
theorem Done.mono {Q' : Option Value → Heap → List Loc → Prop} (d : Done p e below s Q C S U) (h : ∀ v h L, Q v h L → Q' v h L) : Done p e below s Q' C S U := by
  obtain ⟨s₂, o, h1, h2, h3, v, L, h4, h5, h6⟩ := d
  exact ⟨s₂, o, h1, h2, h3, v, L, h4, h _ _ _ h5, h6⟩
theorem Done.int (X : Stand p l e R s m args below meth c T locs cells slots) (hx : p.tables.exec = Jvm.exec) (hlk : meth.locks = false) (hret : meth.sig.returnType = some .int) {pc : Nat} {Ls : Array Slot} {z : Int32} {rest : List Value} (hd : decode c.code pc = .ok (.ireturn, 1)) (hc : cells ≤ C) (hs : slots ≤ S)
    (hq : Q (some (.int z)) T.heap locs) : Done p e below s Q C S (T.setTop (mkF m pc Ls (.int z :: rest))) := by
  obtain ⟨fs, hr, hrun, hended, hW, hsame⟩ := X.leave (v := some (.int z)) (fun h => by rw [hret] at h; cases h)
  exact ⟨_, _, retI X hx hret hd hr, hrun, hended, _, _, rfl, hq, ⟨_, rfl⟩, hW, hsame.mono hc hs⟩
theorem Done.narr (X : Stand p l e R s m args below meth c T locs cells slots) (hx : p.tables.exec = Jvm.exec) (hlk : meth.locks = false) {t : FieldType} (hret : meth.sig.returnType = some t) (ht : t = .boolean ∨ t = .byte ∨ t = .char ∨ t = .short) {pc : Nat} {Ls : Array Slot} {z : Int32} {rest : List Value} (hd : decode c.code pc = .ok (.ireturn, 1)) (hc : cells ≤ C) (hs : slots ≤ S)
    (hq : Q (some (.int (nar t z))) T.heap locs) : Done p e below s Q C S (T.setTop (mkF m pc Ls (.int z :: rest))) := by
  obtain ⟨fs, hr, hrun, hended, hW, hsame⟩ := X.leave (v := some (.int (nar t z))) (fun h => by rw [hret] at h; cases h)
  exact ⟨_, _, retN X hx hret ht hd hr, hrun, hended, _, _, rfl, hq, ⟨_, rfl⟩, hW, hsame.mono hc hs⟩
theorem Done.long (X : Stand p l e R s m args below meth c T locs cells slots) (hx : p.tables.exec = Jvm.exec) (hlk : meth.locks = false) (hret : meth.sig.returnType = some .long) {pc : Nat} {Ls : Array Slot} {z : Int64} {rest : List Value} (hd : decode c.code pc = .ok (.lreturn, 1)) (hc : cells ≤ C) (hs : slots ≤ S)
    (hq : Q (some (.long z)) T.heap locs) : Done p e below s Q C S (T.setTop (mkF m pc Ls (.long z :: rest))) := by
  obtain ⟨fs, hr, hrun, hended, hW, hsame⟩ := X.leave (v := some (.long z)) (fun h => by rw [hret] at h; cases h)
  exact ⟨_, _, retOut X hx hret rfl (Or.inr (Or.inl ⟨rfl, rfl, z, rfl⟩)) hd hr, hrun, hended, _, _, rfl, hq, ⟨_, rfl⟩, hW, hsame.mono hc hs⟩
theorem Done.ref (X : Stand p l e R s m args below meth c T locs cells slots) (hx : p.tables.exec = Jvm.exec) (hlk : meth.locks = false) {t : FieldType} (hret : meth.sig.returnType = some t) (ht : t.isReference = true) {pc : Nat} {Ls : Array Slot} {w : Value} {rest : List Value} (hw : w.isRef = true) (hn : narrow t w = w) (hd : decode c.code pc = .ok (.areturn, 1)) (hc : cells ≤ C) (hs : slots ≤ S)
    (hq : Q (some w) T.heap locs) : Done p e below s Q C S (T.setTop (mkF m pc Ls (w :: rest))) := by
  obtain ⟨fs, hr, hrun, hended, hW, hsame⟩ := X.leave (v := some w) (fun h => by rw [hret] at h; cases h)
  exact ⟨_, _, retOut X hx hret hn (Or.inr (Or.inr (Or.inr (Or.inr ⟨rfl, ht, hw⟩)))) hd hr, hrun, hended, _, _, rfl, hq, ⟨_, rfl⟩, hW, hsame.mono hc hs⟩
theorem Done.void (X : Stand p l e R s m args below meth c T locs cells slots) (hx : p.tables.exec = Jvm.exec) (hlk : meth.locks = false) (hret : meth.sig.returnType = none) {pc : Nat} {Ls : Array Slot} (hd : decode c.code pc = .ok (.return_, 1)) (hc : cells ≤ C) (hs : slots ≤ S)
    (hq : Q none T.heap locs) : Done p e below s Q C S (T.setTop (mkF m pc Ls [])) := by
  obtain ⟨fs, hr, hrun, hended, hW, hsame⟩ := X.leave (v := none) (fun _ => rfl)
  exact ⟨_, _, X.returnOut hx hret hd hr, hrun, hended, _, _, rfl, hq, ⟨_, rfl⟩, hW, hsame.mono hc hs⟩
variable {Z : State} {h h' h0 : Heap} {a b : Addr} {ty : FieldType} {vs : List Value} {sl : Nat} {v x : Value} {ws : List Addr} {j : Int32} {g : JFrame} {rest : List Value}
/-- an array whose slots are just the list vs -/
def Ax (Z : State) (h : Heap) (a : Addr) (ty : FieldType) (vs : List Value) : Prop := ∃ c : Cell, Arr Z h a c ty ∧ c.slots = vs.toArray
theorem Ax.lt (F : Ax Z h a ty vs) : a < h.size := by obtain ⟨c, A, -⟩ := F; exact A.lt
theorem Ax.ext (F : Ax Z h a ty vs) (E : Ext h h') : Ax Z h' a ty vs := by obtain ⟨c, A, r⟩ := F; exact ⟨c, A.ext E, r⟩
theorem Ax.other (F : Ax Z h b ty vs) (W : Wr h h' a sl v) (q : b ≠ a) : Ax Z h' b ty vs := by obtain ⟨c, A, r⟩ := F; exact ⟨c, A.other W q, r⟩
theorem Ax.keep (F : Ax Z h a ty vs) (K : Keep h h' ws) (q : a ∉ ws) : Ax Z h' a ty vs := by obtain ⟨c, A, r⟩ := F; exact ⟨c, ⟨K.2.1 a c A.1 q, A.2⟩, r⟩
theorem own_stakeep {C n d : String} (F : Sta Z h C n d v) (K : Keep h h' ws) (q : ∀ y ∈ ws, ∃ cell : Cell, h[y]? = some cell ∧ cell.vm.isStatics = false) : Sta Z h' C n d v := by
  obtain ⟨cf, i, k, f, st, cell, h1, h2, h3, h4, h5, h6, h7⟩ := F
  refine ⟨cf, i, k, f, st, cell, h1, h2, h3, h4, K.2.1 st cell h5 (fun z => ?_), h6, h7⟩
  obtain ⟨c', g1, g2⟩ := q st z
  cases h5.symm.trans g1; rw [g2] at h6; cases h6
theorem own_unst {C : String} (F : Exa Z h a C) : ∃ cell : Cell, h[a]? = some cell ∧ cell.vm.isStatics = false := by
  obtain ⟨cell, k, h1, -, -, h4, -⟩ := F; exact ⟨cell, h1, h4⟩
theorem fld_long {t : Term} {D n d : String} {k : Int64} {y : Addr} {av : Array Value} (hh : (Jvm.Cond.eq (Term.field t D n d) (Term.long k)).value av Z none Z [] = some true) (ht : t.eval av Z none [] Z = some (.ref y)) : Fld Z Z.heap y D n d (.long k) := by
  obtain ⟨u, w, e1, e2, k1, k2⟩ := cmp_v (Or.inl hh)
  have e3 : (Term.long k).eval av Z none [] Z = some (.long k) := rfl
  rw [e3] at e2; cases e2
  obtain ⟨z, rfl⟩ := k2
  have q := gotT (eq_L e1 e3) hh
  subst q
  rw [fld_at ht] at e1
  exact Fld.start e1
theorem fld_int {t : Term} {D n d : String} {k : Int32} {y : Addr} {av : Array Value} (hh : (Jvm.Cond.eq (Term.field t D n d) (Term.int k)).value av Z none Z [] = some true) (ht : t.eval av Z none [] Z = some (.ref y)) : Fld Z Z.heap y D n d (.int k) := by
  obtain ⟨u, w, e1, e2, k1, k2⟩ := cmp_v (Or.inl hh)
  have e3 : (Term.int k).eval av Z none [] Z = some (.int k) := rfl
  rw [e3] at e2; cases e2
  obtain ⟨z, rfl⟩ := k2
  have q : z = k := by simpa [Jvm.Cond.value, e1, e3] using hh
  subst q
  rw [fld_at ht] at e1
  exact Fld.start e1
theorem Ax.set (F : Ax Z h a ty vs) (W : Wr h h' a sl v) : Ax Z h' a ty (vs.set sl v) := by
  obtain ⟨c, A, r⟩ := F
  exact ⟨_, A.same W, by rw [show (c.setSlot sl v).slots = c.slots.setIfInBounds sl v from rfl, r, List.setIfInBounds_toArray]⟩
theorem Ax.new {k : ClassId} {n : Int32} {i : Nat} (A : Arr Z h a (newA k ty n) ty) (hi : n.toNatClampNeg = i) : Ax Z h a ty (List.replicate i (defaultValue ty)) :=
  ⟨_, A, by rw [show (newA k ty n).slots = Array.replicate n.toNatClampNeg (defaultValue ty) from rfl, hi, List.toArray_replicate]⟩
theorem Ax.size {c : Cell} (r : c.slots = vs.toArray) : c.slots.size = vs.length := by rw [r, List.size_toArray]
theorem Ax.inb {c : Cell} (r : c.slots = vs.toArray) (hj : ¬ j < 0) (hl : j.toNatClampNeg < vs.length) : ¬ (j < 0 ∨ c.slots.size ≤ j.toNatClampNeg) := fun q => q.elim hj fun u => by
  rw [Ax.size r] at u; exact absurd hl (Nat.not_lt.mpr u)
theorem Ax.get {c : Cell} (r : c.slots = vs.toArray) (hat : vs[j.toNatClampNeg]? = some x) : c.slots[j.toNatClampNeg]? = some x := by rw [r, List.getElem?_toArray]; exact hat
theorem Ax.lens (hat : vs[j.toNatClampNeg]? = some x) : j.toNatClampNeg < vs.length := (List.getElem?_eq_some_iff.mp hat).1
theorem ldI (X : Stand p l e R s m args below meth c T locs cells slots) (hx : p.tables.exec = Jvm.exec) (hZ : Z.Warmed39 s.vm) (eT : T.heap = h) (F : Ax Z h a .int vs) (hj : ¬ j < 0) (hat : vs[j.toNatClampNeg]? = some x) (hg : g.method = m) (hs : g.stack = .int j :: .ref a :: rest) (hd : decode c.code g.pc = .ok (.iaload, 1)) :
    ∀ target, Steps p.tables e below (T.setTop { g with pc := g.pc + 1, stack := x :: rest }) target → Steps p.tables e below (T.setTop g) target := by
  obtain ⟨cl, A, r⟩ := F
  exact X.iaload hx (by rw [eT]; exact A.1) (State.isArrayOf_alike hZ.alike A.2.1) A.2.2 (Ax.inb r hj (Ax.lens hat)) (Ax.get r hat) hg hs hd
theorem ldJ (X : Stand p l e R s m args below meth c T locs cells slots) (hx : p.tables.exec = Jvm.exec) (hZ : Z.Warmed39 s.vm) (eT : T.heap = h) (F : Ax Z h a .long vs) (hj : ¬ j < 0) (hat : vs[j.toNatClampNeg]? = some x) (hg : g.method = m) (hs : g.stack = .int j :: .ref a :: rest) (hd : decode c.code g.pc = .ok (.laload, 1)) :
    ∀ target, Steps p.tables e below (T.setTop { g with pc := g.pc + 1, stack := x :: rest }) target → Steps p.tables e below (T.setTop g) target := by
  obtain ⟨cl, A, r⟩ := F
  exact X.laload hx (by rw [eT]; exact A.1) (State.isArrayOf_alike hZ.alike A.2.1) A.2.2 (Ax.inb r hj (Ax.lens hat)) (Ax.get r hat) hg hs hd
theorem ldB (X : Stand p l e R s m args below meth c T locs cells slots) (hx : p.tables.exec = Jvm.exec) (hZ : Z.Warmed39 s.vm) (eT : T.heap = h) (F : Ax Z h a .byte vs) (hj : ¬ j < 0) (hat : vs[j.toNatClampNeg]? = some x) (hg : g.method = m) (hs : g.stack = .int j :: .ref a :: rest) (hd : decode c.code g.pc = .ok (.baload, 1)) :
    ∀ target, Steps p.tables e below (T.setTop { g with pc := g.pc + 1, stack := x :: rest }) target → Steps p.tables e below (T.setTop g) target := by
  obtain ⟨cl, A, r⟩ := F
  exact X.baloadBytes hx (by rw [eT]; exact A.1) (State.isArrayOf_alike hZ.alike A.2.1) A.2.2 (Ax.inb r hj (Ax.lens hat)) (Ax.get r hat) hg hs hd
theorem ldZ (X : Stand p l e R s m args below meth c T locs cells slots) (hx : p.tables.exec = Jvm.exec) (hZ : Z.Warmed39 s.vm) (eT : T.heap = h) (F : Ax Z h a .boolean vs) (hj : ¬ j < 0) (hat : vs[j.toNatClampNeg]? = some x) (hg : g.method = m) (hs : g.stack = .int j :: .ref a :: rest) (hd : decode c.code g.pc = .ok (.baload, 1)) :
    ∀ target, Steps p.tables e below (T.setTop { g with pc := g.pc + 1, stack := x :: rest }) target → Steps p.tables e below (T.setTop g) target := by
  obtain ⟨cl, A, r⟩ := F
  exact X.baloadBooleans hx (by rw [eT]; exact A.1) (State.isArrayOf_alike hZ.alike A.2.1) A.2.2 (Ax.inb r hj (Ax.lens hat)) (Ax.get r hat) hg hs hd
theorem lenA (X : Stand p l e R s m args below meth c T locs cells slots) (hx : p.tables.exec = Jvm.exec) (hZ : Z.Warmed39 s.vm) (eT : T.heap = h) (F : Ax Z h a ty vs) {n : Int32} (hn : vs.length.toInt32 = n) (hg : g.method = m) (hs : g.stack = .ref a :: rest) (hd : decode c.code g.pc = .ok (.arraylength, 1)) :
    ∀ target, Steps p.tables e below (T.setTop { g with pc := g.pc + 1, stack := .int n :: rest }) target → Steps p.tables e below (T.setTop g) target := by
  obtain ⟨cl, A, r⟩ := F
  intro target k
  refine X.arraylength hx (by rw [eT]; exact A.1) (State.isArrayOf_alike hZ.alike A.2.1) hg hs hd target ?_
  rw [Ax.size r, hn]; exact k
theorem stoI (X : Stand p l e R s m args below meth c T locs cells slots) (hx : p.tables.exec = Jvm.exec) (hZ : Z.Warmed39 s.vm) (eT : T.heap = h) (F : Ax Z h a .int vs) {y : Int32} (hj : ¬ j < 0) {i : Nat} (hi : j.toNatClampNeg = i) (hl : i < vs.length) (hg : g.method = m) (hs : g.stack = .int y :: .int j :: .ref a :: rest) (hd : decode c.code g.pc = .ok (.iastore, 1)) :
    ∃ T' h', Stand p l e R s m args below meth c T' (locs ++ [⟨a, j.toNatClampNeg⟩]) cells slots ∧ T'.heap = h' ∧ Wr h h' a j.toNatClampNeg (.int y) ∧ Ax Z h' a .int (vs.set i (.int y)) ∧ ∀ target, Steps p.tables e below (T'.setTop { g with pc := g.pc + 1, stack := rest }) target → Steps p.tables e below (T.setTop g) target := by
  obtain ⟨cl, A, r⟩ := F
  obtain ⟨T', h', X', e', W, st⟩ := stI X hx hZ eT A (Ax.inb r hj (by rw [hi]; exact hl)) hg hs hd
  exact ⟨T', h', X', e', W, hi ▸ Ax.set ⟨cl, A, r⟩ W, st⟩
theorem stoJ (X : Stand p l e R s m args below meth c T locs cells slots) (hx : p.tables.exec = Jvm.exec) (hZ : Z.Warmed39 s.vm) (eT : T.heap = h) (F : Ax Z h a .long vs) {y : Int64} (hj : ¬ j < 0) {i : Nat} (hi : j.toNatClampNeg = i) (hl : i < vs.length) (hg : g.method = m) (hs : g.stack = .long y :: .int j :: .ref a :: rest) (hd : decode c.code g.pc = .ok (.lastore, 1)) :
    ∃ T' h', Stand p l e R s m args below meth c T' (locs ++ [⟨a, j.toNatClampNeg⟩]) cells slots ∧ T'.heap = h' ∧ Wr h h' a j.toNatClampNeg (.long y) ∧ Ax Z h' a .long (vs.set i (.long y)) ∧ ∀ target, Steps p.tables e below (T'.setTop { g with pc := g.pc + 1, stack := rest }) target → Steps p.tables e below (T.setTop g) target := by
  obtain ⟨cl, A, r⟩ := F
  obtain ⟨T', h', X', e', W, st⟩ := stJ X hx hZ eT A (Ax.inb r hj (by rw [hi]; exact hl)) hg hs hd
  exact ⟨T', h', X', e', W, hi ▸ Ax.set ⟨cl, A, r⟩ W, st⟩
theorem stoB (X : Stand p l e R s m args below meth c T locs cells slots) (hx : p.tables.exec = Jvm.exec) (hZ : Z.Warmed39 s.vm) (eT : T.heap = h) (F : Ax Z h a .byte vs) {y : Int32} (hj : ¬ j < 0) {i : Nat} (hi : j.toNatClampNeg = i) (hl : i < vs.length) (hg : g.method = m) (hs : g.stack = .int y :: .int j :: .ref a :: rest) (hd : decode c.code g.pc = .ok (.bastore, 1)) :
    ∃ T' h', Stand p l e R s m args below meth c T' (locs ++ [⟨a, j.toNatClampNeg⟩]) cells slots ∧ T'.heap = h' ∧ Wr h h' a j.toNatClampNeg (.int (nar .byte y)) ∧ Ax Z h' a .byte (vs.set i (.int (nar .byte y))) ∧ ∀ target, Steps p.tables e below (T'.setTop { g with pc := g.pc + 1, stack := rest }) target → Steps p.tables e below (T.setTop g) target := by
  obtain ⟨cl, A, r⟩ := F
  obtain ⟨T', h', X', e', W, st⟩ := stB X hx hZ eT A (Ax.inb r hj (by rw [hi]; exact hl)) hg hs hd
  exact ⟨T', h', X', e', W, hi ▸ Ax.set ⟨cl, A, r⟩ W, st⟩
theorem stoZ (X : Stand p l e R s m args below meth c T locs cells slots) (hx : p.tables.exec = Jvm.exec) (hZ : Z.Warmed39 s.vm) (eT : T.heap = h) (F : Ax Z h a .boolean vs) {y : Int32} (hj : ¬ j < 0) {i : Nat} (hi : j.toNatClampNeg = i) (hl : i < vs.length) (hg : g.method = m) (hs : g.stack = .int y :: .int j :: .ref a :: rest) (hd : decode c.code g.pc = .ok (.bastore, 1)) :
    ∃ T' h', Stand p l e R s m args below meth c T' (locs ++ [⟨a, j.toNatClampNeg⟩]) cells slots ∧ T'.heap = h' ∧ Wr h h' a j.toNatClampNeg (.int (nar .boolean y)) ∧ Ax Z h' a .boolean (vs.set i (.int (nar .boolean y))) ∧ ∀ target, Steps p.tables e below (T'.setTop { g with pc := g.pc + 1, stack := rest }) target → Steps p.tables e below (T.setTop g) target := by
  obtain ⟨cl, A, r⟩ := F
  obtain ⟨T', h', X', e', W, st⟩ := stZ X hx hZ eT A (Ax.inb r hj (by rw [hi]; exact hl)) hg hs hd
  exact ⟨T', h', X', e', W, hi ▸ Ax.set ⟨cl, A, r⟩ W, st⟩
theorem cloX (X : Stand p l e R s m args below meth c T locs cells slots) (hx : p.tables.exec = Jvm.exec) (hZ : Z.Warmed39 s.vm) {a0 : Array Value} {own ad : String} {index : Nat} (hown : s.vm.findClass own = some m.cls)
    (w1 : (Cond.methodLink own index ⟨ad, "clone", "()Ljava/lang/Object;"⟩).before a0 Z = true) (w2 : (Cond.sameMethod ad "java/lang/Object" "clone" "()Ljava/lang/Object;").before a0 Z = true) (w3 : (Cond.native ⟨"java/lang/Object", "clone", "()Ljava/lang/Object;"⟩).before a0 Z = true)
    (w4 : (Cond.instanceMethod ⟨"java/lang/Object", "clone", "()Ljava/lang/Object;"⟩).before a0 Z = true) (w5 : (Cond.selects ad ⟨ad, "clone", "()Ljava/lang/Object;"⟩ ⟨"java/lang/Object", "clone", "()Ljava/lang/Object;"⟩).before a0 Z = true) (w6 : (Cond.castable ad "java/lang/Cloneable").before a0 Z = true)
    (eT : T.heap = h) (F : Ax Z h a ty vs) (E : Exa Z h a ad) (G : ∀ v ∈ vs, fits ty v = true) (hg : g.method = m) (hsize : g.locals.size = c.maxLocals) (hs : g.stack = .ref a :: rest) (hd : decode c.code g.pc = .ok (.invokevirtual index, 3))
    (hf : 1 ≤ R.frames) {W cap : Nat} (hW : 2 * g.monitorRoom + (rest.map fun v => v.category).sum ≤ W) (hl : W + 14 ≤ R.locals) (hcap : vs.length ≤ cap) (hc : cells + 1 ≤ R.cells) (hsl : slots + cap ≤ R.slots) :
    ∃ T' h', Stand p l e R s m args below meth c T' locs (cells + 1) (slots + cap) ∧ T'.heap = h' ∧ Ext h h' ∧ Ax Z h' h.size ty vs ∧ Exa Z h' h.size ad ∧
      ∀ target, Steps p.tables e below (T'.setTop { g with pc := g.pc + 3, stack := .ref h.size :: rest }) target → Steps p.tables e below (T.setTop g) target := by
  obtain ⟨cl, A, r⟩ := F
  have FC : FitC Z cl := fitC_of A fun i hi v hv => by
    rw [r, List.getElem?_toArray] at hv
    exact G v (List.mem_of_getElem? hv)
  obtain ⟨T', h', X', e', ex, A', E', st⟩ := cloneA X hx hZ hown w1 w2 w3 w4 w5 w6 eT A E FC hg hsize hs hd hf hW hl (by rw [Ax.size r]; exact hcap) hc hsl
  exact ⟨T', h', X', e', ex, ⟨cloneOf cl, A', r⟩, E', st⟩
end OwnKit
theorem pd_0 : parseMethodDescriptor "(II)I" = some ⟨[.int, .int], some .int⟩ := by decide +kernel
theorem pd_1 : parseMethodDescriptor "(IIIII)[I" = some ⟨[.int, .int, .int, .int, .int], some (.array .int)⟩ := by decide +kernel
theorem pd_2 : parseMethodDescriptor "(ZII)I" = some ⟨[.boolean, .int, .int], some .int⟩ := by decide +kernel
theorem pd_3 : parseMethodDescriptor "([II)I" = some ⟨[(.array .int), .int], some .int⟩ := by decide +kernel
theorem d1_0 : decode jdk_29_method_69_code 0 = .ok (.iload_n 0, 1) := by decide +kernel
theorem d1_1 : decode jdk_29_method_69_code 1 = .ok (.iload_n 1, 1) := by decide +kernel
theorem d1_2 : decode jdk_29_method_69_code 2 = .ok (.if_icmp .gt 7, 3) := by decide +kernel
theorem d1_5 : decode jdk_29_method_69_code 5 = .ok (.iload_n 0, 1) := by decide +kernel
theorem d1_6 : decode jdk_29_method_69_code 6 = .ok (.goto 4, 3) := by decide +kernel
theorem d1_9 : decode jdk_29_method_69_code 9 = .ok (.iload_n 1, 1) := by decide +kernel
theorem d1_10 : decode jdk_29_method_69_code 10 = .ok (.ireturn, 1) := by decide +kernel
def F1 (p1 : Int32) (p2 : Int32) : Int32 := (if p2 < p1 then p2
  else p1)
theorem ef_1 (m : MethodId) (p1 : Int32) (p2 : Int32) : entryFrame m #[(.int p1), (.int p2)] 2 = mkF m 0 #[.val (.int p1), .val (.int p2)] [] := by first | (simp [entryFrame, mkF, argsToLocals, Value.category]; done) | rfl
def Qrm1 (Z : State) (p1 : Int32) (p2 : Int32) (h0 : Heap) (n0 : Nat) : Option Value → Heap → List Loc → Prop := fun v h L => v = some (.int (F1 p1 p2)) ∧ Fr n0 L ∧ h = h0
set_option maxRecDepth 65536 in
set_option maxHeartbeats 40000000 in
theorem rm1 (l : Launch) (Z : State) (a0 : Array Value) (hw : ∀ d ∈ tables_1, d.before a0 Z = true) (ws : List Jvm.Cond) (p1 : Int32) (p2 : Int32) (h0 : Heap) (n0 : Nat) (Z0 : n0 ≤ h0.size) :
    MetFree l (⟨"java/lang/Math", "min", "(II)I"⟩ : MethodName) (head1 (Jvm.Cond.code (⟨"java/lang/Math", "min", "(II)I"⟩ : MethodName) jdk_29_method_69_code 2 (some .int) :: ws) ({ frames := 0, cells := 0, slots := 0, locals := 0 } : Room)) (fun a U => a = #[(.int p1), (.int p2)] ∧ Z.Warmed39 U.vm ∧ U.heap = h0) (fun _ _ _ _ _ => True) (fun _ U o U' => ∃ v L, o = .returned v ∧ Qrm1 Z p1 p2 h0 n0 v U'.heap L ∧ FrameEnd U o U' L ({ frames := 0, cells := 0, slots := 0, locals := 0 } : Room).cells ({ frames := 0, cells := 0, slots := 0, locals := 0 } : Room).slots) := by
  refine MetFree.of_bodySF (Jvm.Free.JP.mathPlain rfl (by decide +kernel)) hisR ?_
  intro p e s m args below meth c s₁ Bd hml0 hP hK
  obtain ⟨rfl, hZ, hh⟩ := hP
  have hx := Bd.exec
  have hby := Bd.bytes
  have hml : c.maxLocals = 2 := hml0
  have hown : s.vm.findClass "java/lang/Math" = some m.cls := findClass_of_methodNamed Bd.named
  have hnm := (name_of_methodNamed Bd.named Bd.method).1
  have hlk : meth.locks = false := BodyLoose.notSynchronized Bd
  have hret := Bd.returns
  have X0 : Stand p l e ({ frames := 0, cells := 0, slots := 0, locals := 0 } : Room) s m #[(.int p1), (.int p2)] below meth c s₁ [] 0 0 := Stand.of_body Bd
  have e0 : s₁.heap = h0 := by rw [← hh, Bd.state]; rfl
  have N0 := Fr.nil n0
  show Done p e below s (Qrm1 Z p1 p2 h0 n0) ({ frames := 0, cells := 0, slots := 0, locals := 0 } : Room).cells ({ frames := 0, cells := 0, slots := 0, locals := 0 } : Room).slots (s₁.setTop (entryFrame m #[(.int p1), (.int p2)] 2))
  refine Done.step (fun t k => castTop (ef_1 m p1 p2) k) ?_
  show Done p e below s _ _ _ (s₁.setTop (mkF m 0 #[.val (.int p1), .val (.int p2)] []))
  refine Done.step (fun t k => XS.iloadN X0.here hx rfl (hb hby d1_0) rfl k) ?_
  show Done p e below s _ _ _ (s₁.setTop (mkF m 1 #[.val (.int p1), .val (.int p2)] [(.int p1)]))
  refine Done.step (fun t k => XS.iloadN X0.here hx rfl (hb hby d1_1) rfl k) ?_
  show Done p e below s _ _ _ (s₁.setTop (mkF m 2 #[.val (.int p1), .val (.int p2)] [(.int p2), (.int p1)]))
  by_cases c1 : p2 < p1
  · refine Done.step (fun t k => XS.icmpYes X0.here hx rfl (pc0 := 2) (pc' := 9) rfl (hb hby d1_2) rfl (tlt c1).2.2.1 (by decide) (by decide) k) ?_
    show Done p e below s _ _ _ (s₁.setTop (mkF m 9 #[.val (.int p1), .val (.int p2)] []))
    refine Done.step (fun t k => XS.iloadN X0.here hx rfl (hb hby d1_9) rfl k) ?_
    show Done p e below s _ _ _ (s₁.setTop (mkF m 10 #[.val (.int p1), .val (.int p2)] [(.int p2)]))
    exact Done.int X0 hx hlk hret (hb hby d1_10) (by decide) (by decide) ⟨by rw [show F1 p1 p2 = p2 from by unfold F1; rw [if_pos c1]] <;> rfl, N0, e0⟩
  · refine Done.step (fun t k => XS.icmpNo X0.here hx rfl (hb hby d1_2) rfl (flt c1).2.2.1 k) ?_
    show Done p e below s _ _ _ (s₁.setTop (mkF m 5 #[.val (.int p1), .val (.int p2)] []))
    refine Done.step (fun t k => XS.iloadN X0.here hx rfl (hb hby d1_5) rfl k) ?_
    show Done p e below s _ _ _ (s₁.setTop (mkF m 6 #[.val (.int p1), .val (.int p2)] [(.int p1)]))
    refine Done.step (fun t k => XS.goto X0.here hx rfl (pc0 := 6) (pc' := 10) rfl (hb hby d1_6) (by decide) (by decide) k) ?_
    show Done p e below s _ _ _ (s₁.setTop (mkF m 10 #[.val (.int p1), .val (.int p2)] [(.int p1)]))
    exact Done.int X0 hx hlk hret (hb hby d1_10) (by decide) (by decide) ⟨by rw [show F1 p1 p2 = p1 from by unfold F1; rw [if_neg c1]] <;> rfl, N0, e0⟩
theorem d2_0 : decode jdk_29_method_65_code 0 = .ok (.iload_n 0, 1) := by decide +kernel
theorem d2_1 : decode jdk_29_method_65_code 1 = .ok (.iload_n 1, 1) := by decide +kernel
theorem d2_2 : decode jdk_29_method_65_code 2 = .ok (.if_icmp .lt 7, 3) := by decide +kernel
theorem d2_5 : decode jdk_29_method_65_code 5 = .ok (.iload_n 0, 1) := by decide +kernel
theorem d2_6 : decode jdk_29_method_65_code 6 = .ok (.goto 4, 3) := by decide +kernel
theorem d2_9 : decode jdk_29_method_65_code 9 = .ok (.iload_n 1, 1) := by decide +kernel
theorem d2_10 : decode jdk_29_method_65_code 10 = .ok (.ireturn, 1) := by decide +kernel
def F2 (p1 : Int32) (p2 : Int32) : Int32 := (if p1 < p2 then p2
  else p1)
theorem ef_2 (m : MethodId) (p1 : Int32) (p2 : Int32) : entryFrame m #[(.int p1), (.int p2)] 2 = mkF m 0 #[.val (.int p1), .val (.int p2)] [] := by first | (simp [entryFrame, mkF, argsToLocals, Value.category]; done) | rfl
def Qrm2 (Z : State) (p1 : Int32) (p2 : Int32) (h0 : Heap) (n0 : Nat) : Option Value → Heap → List Loc → Prop := fun v h L => v = some (.int (F2 p1 p2)) ∧ Fr n0 L ∧ h = h0
set_option maxRecDepth 65536 in
set_option maxHeartbeats 40000000 in
theorem rm2 (l : Launch) (Z : State) (a0 : Array Value) (hw : ∀ d ∈ tables_1, d.before a0 Z = true) (ws : List Jvm.Cond) (p1 : Int32) (p2 : Int32) (h0 : Heap) (n0 : Nat) (Z0 : n0 ≤ h0.size) :
    MetFree l (⟨"java/lang/Math", "max", "(II)I"⟩ : MethodName) (head1 (Jvm.Cond.code (⟨"java/lang/Math", "max", "(II)I"⟩ : MethodName) jdk_29_method_65_code 2 (some .int) :: ws) ({ frames := 0, cells := 0, slots := 0, locals := 0 } : Room)) (fun a U => a = #[(.int p1), (.int p2)] ∧ Z.Warmed39 U.vm ∧ U.heap = h0) (fun _ _ _ _ _ => True) (fun _ U o U' => ∃ v L, o = .returned v ∧ Qrm2 Z p1 p2 h0 n0 v U'.heap L ∧ FrameEnd U o U' L ({ frames := 0, cells := 0, slots := 0, locals := 0 } : Room).cells ({ frames := 0, cells := 0, slots := 0, locals := 0 } : Room).slots) := by
  refine MetFree.of_bodySF (Jvm.Free.JP.mathPlain rfl (by decide +kernel)) hisR ?_
  intro p e s m args below meth c s₁ Bd hml0 hP hK
  obtain ⟨rfl, hZ, hh⟩ := hP
  have hx := Bd.exec
  have hby := Bd.bytes
  have hml : c.maxLocals = 2 := hml0
  have hown : s.vm.findClass "java/lang/Math" = some m.cls := findClass_of_methodNamed Bd.named
  have hnm := (name_of_methodNamed Bd.named Bd.method).1
  have hlk : meth.locks = false := BodyLoose.notSynchronized Bd
  have hret := Bd.returns
  have X0 : Stand p l e ({ frames := 0, cells := 0, slots := 0, locals := 0 } : Room) s m #[(.int p1), (.int p2)] below meth c s₁ [] 0 0 := Stand.of_body Bd
  have e0 : s₁.heap = h0 := by rw [← hh, Bd.state]; rfl
  have N0 := Fr.nil n0
  show Done p e below s (Qrm2 Z p1 p2 h0 n0) ({ frames := 0, cells := 0, slots := 0, locals := 0 } : Room).cells ({ frames := 0, cells := 0, slots := 0, locals := 0 } : Room).slots (s₁.setTop (entryFrame m #[(.int p1), (.int p2)] 2))
  refine Done.step (fun t k => castTop (ef_2 m p1 p2) k) ?_
  show Done p e below s _ _ _ (s₁.setTop (mkF m 0 #[.val (.int p1), .val (.int p2)] []))
  refine Done.step (fun t k => XS.iloadN X0.here hx rfl (hb hby d2_0) rfl k) ?_
  show Done p e below s _ _ _ (s₁.setTop (mkF m 1 #[.val (.int p1), .val (.int p2)] [(.int p1)]))
  refine Done.step (fun t k => XS.iloadN X0.here hx rfl (hb hby d2_1) rfl k) ?_
  show Done p e below s _ _ _ (s₁.setTop (mkF m 2 #[.val (.int p1), .val (.int p2)] [(.int p2), (.int p1)]))
  by_cases c1 : p1 < p2
  · refine Done.step (fun t k => XS.icmpYes X0.here hx rfl (pc0 := 2) (pc' := 9) rfl (hb hby d2_2) rfl (tlt c1).1 (by decide) (by decide) k) ?_
    show Done p e below s _ _ _ (s₁.setTop (mkF m 9 #[.val (.int p1), .val (.int p2)] []))
    refine Done.step (fun t k => XS.iloadN X0.here hx rfl (hb hby d2_9) rfl k) ?_
    show Done p e below s _ _ _ (s₁.setTop (mkF m 10 #[.val (.int p1), .val (.int p2)] [(.int p2)]))
    exact Done.int X0 hx hlk hret (hb hby d2_10) (by decide) (by decide) ⟨by rw [show F2 p1 p2 = p2 from by unfold F2; rw [if_pos c1]] <;> rfl, N0, e0⟩
  · refine Done.step (fun t k => XS.icmpNo X0.here hx rfl (hb hby d2_2) rfl (flt c1).1 k) ?_
    show Done p e below s _ _ _ (s₁.setTop (mkF m 5 #[.val (.int p1), .val (.int p2)] []))
    refine Done.step (fun t k => XS.iloadN X0.here hx rfl (hb hby d2_5) rfl k) ?_
    show Done p e below s _ _ _ (s₁.setTop (mkF m 6 #[.val (.int p1), .val (.int p2)] [(.int p1)]))
    refine Done.step (fun t k => XS.goto X0.here hx rfl (pc0 := 6) (pc' := 10) rfl (hb hby d2_6) (by decide) (by decide) k) ?_
    show Done p e below s _ _ _ (s₁.setTop (mkF m 10 #[.val (.int p1), .val (.int p2)] [(.int p1)]))
    exact Done.int X0 hx hlk hret (hb hby d2_10) (by decide) (by decide) ⟨by rw [show F2 p1 p2 = p1 from by unfold F2; rw [if_neg c1]] <;> rfl, N0, e0⟩
theorem d4_0 : decode method_3_code 0 = .ok (.iload_n 0, 1) := by decide +kernel
theorem d4_1 : decode method_3_code 1 = .ok (.ifCond .eq 10, 3) := by decide +kernel
theorem d4_4 : decode method_3_code 4 = .ok (.iload_n 1, 1) := by decide +kernel
theorem d4_5 : decode method_3_code 5 = .ok (.iload_n 2, 1) := by decide +kernel
theorem d4_6 : decode method_3_code 6 = .ok (.if_icmp .gt 5, 3) := by decide +kernel
theorem d4_9 : decode method_3_code 9 = .ok (.iconst 1, 1) := by decide +kernel
theorem d4_10 : decode method_3_code 10 = .ok (.ireturn, 1) := by decide +kernel
theorem d4_11 : decode method_3_code 11 = .ok (.iconst 0, 1) := by decide +kernel
theorem d4_12 : decode method_3_code 12 = .ok (.ireturn, 1) := by decide +kernel
def F4 (p1 : Int32) (p2 : Int32) (p3 : Int32) : Int32 := (if p1 = (0 : Int32) then (0 : Int32)
  else (if p3 < p2 then (0 : Int32)
    else (1 : Int32)))
theorem pn_4 : plainName "com/example/ruled_ledger/ruledledger/rules/SuperclassForestStartAbovePinLaw" = true := by first | (simp [plainName, overriddenIn]; done) | decide +kernel
theorem ef_4 (m : MethodId) (p1 : Int32) (p2 : Int32) (p3 : Int32) : entryFrame m #[(.int p1), (.int p2), (.int p3)] 3 = mkF m 0 #[.val (.int p1), .val (.int p2), .val (.int p3)] [] := by first | (simp [entryFrame, mkF, argsToLocals, Value.category]; done) | rfl
def Qrm4 (Z : State) (p1 : Int32) (p2 : Int32) (p3 : Int32) (h0 : Heap) (n0 : Nat) : Option Value → Heap → List Loc → Prop := fun v h L => v = some (.int (F4 p1 p2 p3)) ∧ Fr n0 L ∧ h = h0
set_option maxRecDepth 65536 in
set_option maxHeartbeats 40000000 in
theorem rm4 (l : Launch) (Z : State) (a0 : Array Value) (hw : ∀ d ∈ tables_1, d.before a0 Z = true) (ws : List Jvm.Cond) (p1 : Int32) (p2 : Int32) (p3 : Int32) (h0 : Heap) (n0 : Nat) (Z0 : n0 ≤ h0.size) :
    MetFree l (⟨"com/example/ruled_ledger/ruledledger/rules/SuperclassForestStartAbovePinLaw", "le", "(ZII)I"⟩ : MethodName) (head1 (Jvm.Cond.code (⟨"com/example/ruled_ledger/ruledledger/rules/SuperclassForestStartAbovePinLaw", "le", "(ZII)I"⟩ : MethodName) method_3_code 3 (some .int) :: ws) ({ frames := 0, cells := 0, slots := 0, locals := 0 } : Room)) (fun a U => a = #[(.int p1), (.int p2), (.int p3)] ∧ Z.Warmed39 U.vm ∧ U.heap = h0) (fun _ _ _ _ _ => True) (fun _ U o U' => ∃ v L, o = .returned v ∧ Qrm4 Z p1 p2 p3 h0 n0 v U'.heap L ∧ FrameEnd U o U' L ({ frames := 0, cells := 0, slots := 0, locals := 0 } : Room).cells ({ frames := 0, cells := 0, slots := 0, locals := 0 } : Room).slots) := by
  refine MetFree.of_bodySF (plainFor_of_name pn_4) hisR ?_
  intro p e s m args below meth c s₁ Bd hml0 hP hK
  obtain ⟨rfl, hZ, hh⟩ := hP
  have hx := Bd.exec
  have hby := Bd.bytes
  have hml : c.maxLocals = 3 := hml0
  have hown : s.vm.findClass "com/example/ruled_ledger/ruledledger/rules/SuperclassForestStartAbovePinLaw" = some m.cls := findClass_of_methodNamed Bd.named
  have hnm := (name_of_methodNamed Bd.named Bd.method).1
  have hlk : meth.locks = false := BodyLoose.notSynchronized Bd
  have hret := Bd.returns
  have X0 : Stand p l e ({ frames := 0, cells := 0, slots := 0, locals := 0 } : Room) s m #[(.int p1), (.int p2), (.int p3)] below meth c s₁ [] 0 0 := Stand.of_body Bd
  have e0 : s₁.heap = h0 := by rw [← hh, Bd.state]; rfl
  have N0 := Fr.nil n0
  show Done p e below s (Qrm4 Z p1 p2 p3 h0 n0) ({ frames := 0, cells := 0, slots := 0, locals := 0 } : Room).cells ({ frames := 0, cells := 0, slots := 0, locals := 0 } : Room).slots (s₁.setTop (entryFrame m #[(.int p1), (.int p2), (.int p3)] 3))
  refine Done.step (fun t k => castTop (ef_4 m p1 p2 p3) k) ?_
  show Done p e below s _ _ _ (s₁.setTop (mkF m 0 #[.val (.int p1), .val (.int p2), .val (.int p3)] []))
  refine Done.step (fun t k => XS.iloadN X0.here hx rfl (hb hby d4_0) rfl k) ?_
  show Done p e below s _ _ _ (s₁.setTop (mkF m 1 #[.val (.int p1), .val (.int p2), .val (.int p3)] [(.int p1)]))
  by_cases c1 : p1 = (0 : Int32)
  · refine Done.step (fun t k => XS.ifYes X0.here hx rfl (pc0 := 1) (pc' := 11) rfl (hb hby d4_1) rfl ((if0 _ _).trans (teq c1).1) (by decide) (by decide) k) ?_
    show Done p e below s _ _ _ (s₁.setTop (mkF m 11 #[.val (.int p1), .val (.int p2), .val (.int p3)] []))
    refine Done.step (fun t k => XS.iconst X0.here hx rfl (hb hby d4_11) k) ?_
    show Done p e below s _ _ _ (s₁.setTop (mkF m 12 #[.val (.int p1), .val (.int p2), .val (.int p3)] [(.int (0 : Int32))]))
    exact Done.int X0 hx hlk hret (hb hby d4_12) (by decide) (by decide) ⟨by rw [show F4 p1 p2 p3 = (0 : Int32) from by unfold F4; rw [if_pos c1]] <;> rfl, N0, e0⟩
  · refine Done.step (fun t k => XS.ifNo X0.here hx rfl (hb hby d4_1) rfl ((if0 _ _).trans (feq c1).1) k) ?_
    show Done p e below s _ _ _ (s₁.setTop (mkF m 4 #[.val (.int p1), .val (.int p2), .val (.int p3)] []))
    refine Done.step (fun t k => XS.iloadN X0.here hx rfl (hb hby d4_4) rfl k) ?_
    show Done p e below s _ _ _ (s₁.setTop (mkF m 5 #[.val (.int p1), .val (.int p2), .val (.int p3)] [(.int p2)]))
    refine Done.step (fun t k => XS.iloadN X0.here hx rfl (hb hby d4_5) rfl k) ?_
    show Done p e below s _ _ _ (s₁.setTop (mkF m 6 #[.val (.int p1), .val (.int p2), .val (.int p3)] [(.int p3), (.int p2)]))
    by_cases c2 : p3 < p2
    · refine Done.step (fun t k => XS.icmpYes X0.here hx rfl (pc0 := 6) (pc' := 11) rfl (hb hby d4_6) rfl (tlt c2).2.2.1 (by decide) (by decide) k) ?_
      show Done p e below s _ _ _ (s₁.setTop (mkF m 11 #[.val (.int p1), .val (.int p2), .val (.int p3)] []))
      refine Done.step (fun t k => XS.iconst X0.here hx rfl (hb hby d4_11) k) ?_
      show Done p e below s _ _ _ (s₁.setTop (mkF m 12 #[.val (.int p1), .val (.int p2), .val (.int p3)] [(.int (0 : Int32))]))
      exact Done.int X0 hx hlk hret (hb hby d4_12) (by decide) (by decide) ⟨by rw [show F4 p1 p2 p3 = (0 : Int32) from by unfold F4; rw [if_neg c1, if_pos c2]] <;> rfl, N0, e0⟩
    · refine Done.step (fun t k => XS.icmpNo X0.here hx rfl (hb hby d4_6) rfl (flt c2).2.2.1 k) ?_
      show Done p e below s _ _ _ (s₁.setTop (mkF m 9 #[.val (.int p1), .val (.int p2), .val (.int p3)] []))
      refine Done.step (fun t k => XS.iconst X0.here hx rfl (hb hby d4_9) k) ?_
      show Done p e below s _ _ _ (s₁.setTop (mkF m 10 #[.val (.int p1), .val (.int p2), .val (.int p3)] [(.int (1 : Int32))]))
      exact Done.int X0 hx hlk hret (hb hby d4_10) (by decide) (by decide) ⟨by rw [show F4 p1 p2 p3 = (1 : Int32) from by unfold F4; rw [if_neg c1, if_neg c2]] <;> rfl, N0, e0⟩
theorem d3_0 : decode method_4_code 0 = .ok (.iload_n 0, 1) := by decide +kernel
theorem d3_1 : decode method_4_code 1 = .ok (.ifCond .ne 7, 3) := by decide +kernel
theorem d3_4 : decode method_4_code 4 = .ok (.iconst 0, 1) := by decide +kernel
theorem d3_5 : decode method_4_code 5 = .ok (.newarray .int, 2) := by decide +kernel
theorem d3_7 : decode method_4_code 7 = .ok (.areturn, 1) := by decide +kernel
theorem d3_8 : decode method_4_code 8 = .ok (.iload_n 0, 1) := by decide +kernel
theorem d3_9 : decode method_4_code 9 = .ok (.iconst 1, 1) := by decide +kernel
theorem d3_10 : decode method_4_code 10 = .ok (.if_icmp .ne 11, 3) := by decide +kernel
theorem d3_13 : decode method_4_code 13 = .ok (.iconst 1, 1) := by decide +kernel
theorem d3_14 : decode method_4_code 14 = .ok (.newarray .int, 2) := by decide +kernel
theorem d3_16 : decode method_4_code 16 = .ok (.dup, 1) := by decide +kernel
theorem d3_17 : decode method_4_code 17 = .ok (.iconst 0, 1) := by decide +kernel
theorem d3_18 : decode method_4_code 18 = .ok (.iload_n 1, 1) := by decide +kernel
theorem d3_19 : decode method_4_code 19 = .ok (.iastore, 1) := by decide +kernel
theorem d3_20 : decode method_4_code 20 = .ok (.areturn, 1) := by decide +kernel
theorem d3_21 : decode method_4_code 21 = .ok (.iload_n 0, 1) := by decide +kernel
theorem d3_22 : decode method_4_code 22 = .ok (.iconst 2, 1) := by decide +kernel
theorem d3_23 : decode method_4_code 23 = .ok (.if_icmp .ne 15, 3) := by decide +kernel
theorem d3_26 : decode method_4_code 26 = .ok (.iconst 2, 1) := by decide +kernel
theorem d3_27 : decode method_4_code 27 = .ok (.newarray .int, 2) := by decide +kernel
theorem d3_29 : decode method_4_code 29 = .ok (.dup, 1) := by decide +kernel
theorem d3_30 : decode method_4_code 30 = .ok (.iconst 0, 1) := by decide +kernel
theorem d3_31 : decode method_4_code 31 = .ok (.iload_n 1, 1) := by decide +kernel
theorem d3_32 : decode method_4_code 32 = .ok (.iastore, 1) := by decide +kernel
theorem d3_33 : decode method_4_code 33 = .ok (.dup, 1) := by decide +kernel
theorem d3_34 : decode method_4_code 34 = .ok (.iconst 1, 1) := by decide +kernel
theorem d3_35 : decode method_4_code 35 = .ok (.iload_n 2, 1) := by decide +kernel
theorem d3_36 : decode method_4_code 36 = .ok (.iastore, 1) := by decide +kernel
theorem d3_37 : decode method_4_code 37 = .ok (.areturn, 1) := by decide +kernel
theorem d3_38 : decode method_4_code 38 = .ok (.iload_n 0, 1) := by decide +kernel
theorem d3_39 : decode method_4_code 39 = .ok (.iconst 3, 1) := by decide +kernel
theorem d3_40 : decode method_4_code 40 = .ok (.if_icmp .ne 19, 3) := by decide +kernel
theorem d3_43 : decode method_4_code 43 = .ok (.iconst 3, 1) := by decide +kernel
theorem d3_44 : decode method_4_code 44 = .ok (.newarray .int, 2) := by decide +kernel
theorem d3_46 : decode method_4_code 46 = .ok (.dup, 1) := by decide +kernel
theorem d3_47 : decode method_4_code 47 = .ok (.iconst 0, 1) := by decide +kernel
theorem d3_48 : decode method_4_code 48 = .ok (.iload_n 1, 1) := by decide +kernel
theorem d3_49 : decode method_4_code 49 = .ok (.iastore, 1) := by decide +kernel
theorem d3_50 : decode method_4_code 50 = .ok (.dup, 1) := by decide +kernel
theorem d3_51 : decode method_4_code 51 = .ok (.iconst 1, 1) := by decide +kernel
theorem d3_52 : decode method_4_code 52 = .ok (.iload_n 2, 1) := by decide +kernel
theorem d3_53 : decode method_4_code 53 = .ok (.iastore, 1) := by decide +kernel
theorem d3_54 : decode method_4_code 54 = .ok (.dup, 1) := by decide +kernel
theorem d3_55 : decode method_4_code 55 = .ok (.iconst 2, 1) := by decide +kernel
theorem d3_56 : decode method_4_code 56 = .ok (.iload_n 3, 1) := by decide +kernel
theorem d3_57 : decode method_4_code 57 = .ok (.iastore, 1) := by decide +kernel
theorem d3_58 : decode method_4_code 58 = .ok (.areturn, 1) := by decide +kernel
theorem d3_59 : decode method_4_code 59 = .ok (.iconst 4, 1) := by decide +kernel
theorem d3_60 : decode method_4_code 60 = .ok (.newarray .int, 2) := by decide +kernel
theorem d3_62 : decode method_4_code 62 = .ok (.dup, 1) := by decide +kernel
theorem d3_63 : decode method_4_code 63 = .ok (.iconst 0, 1) := by decide +kernel
theorem d3_64 : decode method_4_code 64 = .ok (.iload_n 1, 1) := by decide +kernel
theorem d3_65 : decode method_4_code 65 = .ok (.iastore, 1) := by decide +kernel
theorem d3_66 : decode method_4_code 66 = .ok (.dup, 1) := by decide +kernel
theorem d3_67 : decode method_4_code 67 = .ok (.iconst 1, 1) := by decide +kernel
theorem d3_68 : decode method_4_code 68 = .ok (.iload_n 2, 1) := by decide +kernel
theorem d3_69 : decode method_4_code 69 = .ok (.iastore, 1) := by decide +kernel
theorem d3_70 : decode method_4_code 70 = .ok (.dup, 1) := by decide +kernel
theorem d3_71 : decode method_4_code 71 = .ok (.iconst 2, 1) := by decide +kernel
theorem d3_72 : decode method_4_code 72 = .ok (.iload_n 3, 1) := by decide +kernel
theorem d3_73 : decode method_4_code 73 = .ok (.iastore, 1) := by decide +kernel
theorem d3_74 : decode method_4_code 74 = .ok (.dup, 1) := by decide +kernel
theorem d3_75 : decode method_4_code 75 = .ok (.iconst 3, 1) := by decide +kernel
theorem d3_76 : decode method_4_code 76 = .ok (.iload 4, 2) := by decide +kernel
theorem d3_78 : decode method_4_code 78 = .ok (.iastore, 1) := by decide +kernel
theorem d3_79 : decode method_4_code 79 = .ok (.areturn, 1) := by decide +kernel
def MK (p1 p2 p3 p4 p5 : Int32) : List Int32 := (if p1 = (0 : Int32) then []
  else (if p1 = (1 : Int32) then [p2]
    else (if p1 = (2 : Int32) then [p2, p3]
      else (if p1 = (3 : Int32) then [p2, p3, p4]
        else [p2, p3, p4, p5]))))
theorem pn_3 : plainName "com/example/ruled_ledger/ruledledger/rules/SuperclassForestStartAbovePinLaw" = true := by first | (simp [plainName, overriddenIn]; done) | decide +kernel
theorem ef_3 (m : MethodId) (p1 : Int32) (p2 : Int32) (p3 : Int32) (p4 : Int32) (p5 : Int32) : entryFrame m #[(.int p1), (.int p2), (.int p3), (.int p4), (.int p5)] 5 = mkF m 0 #[.val (.int p1), .val (.int p2), .val (.int p3), .val (.int p4), .val (.int p5)] [] := by first | (simp [entryFrame, mkF, argsToLocals, Value.category]; done) | rfl
def Qrm3 (Z : State) (p1 : Int32) (p2 : Int32) (p3 : Int32) (p4 : Int32) (p5 : Int32) (h0 : Heap) (n0 : Nat) : Option Value → Heap → List Loc → Prop := fun v h L => ∃ b : Addr, v = some (.ref b) ∧ Fr n0 L ∧ Keep h0 h [] ∧ Ax Z h b .int ((MK p1 p2 p3 p4 p5).map Value.int)
set_option maxRecDepth 65536 in
set_option maxHeartbeats 40000000 in
theorem rm3 (l : Launch) (Z : State) (a0 : Array Value) (hw : ∀ d ∈ tables_1, d.before a0 Z = true) (ws : List Jvm.Cond) (p1 : Int32) (p2 : Int32) (p3 : Int32) (p4 : Int32) (p5 : Int32) (h0 : Heap) (n0 : Nat) (Z0 : n0 ≤ h0.size) :
    MetFree l (⟨"com/example/ruled_ledger/ruledledger/rules/SuperclassForestStartAbovePinLaw", "make", "(IIIII)[I"⟩ : MethodName) (head1 (Jvm.Cond.code (⟨"com/example/ruled_ledger/ruledledger/rules/SuperclassForestStartAbovePinLaw", "make", "(IIIII)[I"⟩ : MethodName) method_4_code 5 (some (.array .int)) :: ws) ({ frames := 0, cells := 1, slots := 4, locals := 0 } : Room)) (fun a U => a = #[(.int p1), (.int p2), (.int p3), (.int p4), (.int p5)] ∧ Z.Warmed39 U.vm ∧ U.heap = h0) (fun _ _ _ _ _ => True) (fun _ U o U' => ∃ v L, o = .returned v ∧ Qrm3 Z p1 p2 p3 p4 p5 h0 n0 v U'.heap L ∧ FrameEnd U o U' L ({ frames := 0, cells := 1, slots := 4, locals := 0 } : Room).cells ({ frames := 0, cells := 1, slots := 4, locals := 0 } : Room).slots) := by
  refine MetFree.of_bodySF (plainFor_of_name pn_3) hisR ?_
  intro p e s m args below meth c s₁ Bd hml0 hP hK
  obtain ⟨rfl, hZ, hh⟩ := hP
  have hx := Bd.exec
  have hby := Bd.bytes
  have hml : c.maxLocals = 5 := hml0
  have hown : s.vm.findClass "com/example/ruled_ledger/ruledledger/rules/SuperclassForestStartAbovePinLaw" = some m.cls := findClass_of_methodNamed Bd.named
  have hnm := (name_of_methodNamed Bd.named Bd.method).1
  have hlk : meth.locks = false := BodyLoose.notSynchronized Bd
  have hret := Bd.returns
  have X0 : Stand p l e ({ frames := 0, cells := 1, slots := 4, locals := 0 } : Room) s m #[(.int p1), (.int p2), (.int p3), (.int p4), (.int p5)] below meth c s₁ [] 0 0 := Stand.of_body Bd
  have e0 : s₁.heap = h0 := by rw [← hh, Bd.state]; rfl
  have N0 := Fr.nil n0
  show Done p e below s (Qrm3 Z p1 p2 p3 p4 p5 h0 n0) ({ frames := 0, cells := 1, slots := 4, locals := 0 } : Room).cells ({ frames := 0, cells := 1, slots := 4, locals := 0 } : Room).slots (s₁.setTop (entryFrame m #[(.int p1), (.int p2), (.int p3), (.int p4), (.int p5)] 5))
  refine Done.step (fun t k => castTop (ef_3 m p1 p2 p3 p4 p5) k) ?_
  show Done p e below s _ _ _ (s₁.setTop (mkF m 0 #[.val (.int p1), .val (.int p2), .val (.int p3), .val (.int p4), .val (.int p5)] []))
  refine Done.step (fun t k => XS.iloadN X0.here hx rfl (hb hby d3_0) rfl k) ?_
  show Done p e below s _ _ _ (s₁.setTop (mkF m 1 #[.val (.int p1), .val (.int p2), .val (.int p3), .val (.int p4), .val (.int p5)] [(.int p1)]))
  by_cases c1 : p1 = (0 : Int32)
  · refine Done.step (fun t k => XS.ifNo X0.here hx rfl (hb hby d3_1) rfl ((if0 _ _).trans (teq c1).2) k) ?_
    show Done p e below s _ _ _ (s₁.setTop (mkF m 4 #[.val (.int p1), .val (.int p2), .val (.int p3), .val (.int p4), .val (.int p5)] []))
    refine Done.step (fun t k => XS.iconst X0.here hx rfl (hb hby d3_4) k) ?_
    show Done p e below s _ _ _ (s₁.setTop (mkF m 5 #[.val (.int p1), .val (.int p2), .val (.int p3), .val (.int p4), .val (.int p5)] [(.int (0 : Int32))]))
    obtain ⟨T2, h2, k2, X2, e2, E2, A2, B2, st2⟩ := newPE X0 hx hZ (hw _ (List.mem_of_getElem? (i := 11) rfl)) e0 (g := (mkF m 5 #[.val (.int p1), .val (.int p2), .val (.int p3), .val (.int p4), .val (.int p5)] [(.int (0 : Int32))])) rfl (hb hby d3_5) rfl (by decide) (cap := 0) (by decide) (by decide) (by decide) (by decide) (ad := "[I") (by decide)
    obtain ⟨b2, gq2⟩ : ∃ z, z = h0.size := ⟨_, rfl⟩
    rw [← gq2] at A2 B2 st2
    have g_b2 : n0 ≤ b2 := Nat.le_trans Z0 (Nat.le_of_eq gq2.symm)
    have sz_b2 : h0.size ≤ b2 := Nat.le_trans (Keep.refl h0 []).1 (Nat.le_of_eq gq2.symm)
    have Z2 : n0 ≤ h2.size := Nat.le_trans Z0 E2.1
    have K2 : Keep h0 h2 [] := (Keep.refl h0 []).ext E2
    have f3 : Ax Z h2 b2 .int [] := Ax.new (ty := .int) (i := 0) A2 (by decide)
    refine Done.step st2 ?_
    show Done p e below s _ _ _ (T2.setTop (mkF m 7 #[.val (.int p1), .val (.int p2), .val (.int p3), .val (.int p4), .val (.int p5)] [(.ref b2)]))
    exact Done.ref X2 hx hlk hret rfl rfl rfl (hb hby d3_7) (by decide) (by decide) ⟨b2, rfl, N0, (by rw [e2]; exact ⟨K2, by rw [show MK p1 p2 p3 p4 p5 = [] from by unfold MK; rw [if_pos c1]]; exact f3⟩)⟩
  · refine Done.step (fun t k => XS.ifYes X0.here hx rfl (pc0 := 1) (pc' := 8) rfl (hb hby d3_1) rfl ((if0 _ _).trans (feq c1).2) (by decide) (by decide) k) ?_
    show Done p e below s _ _ _ (s₁.setTop (mkF m 8 #[.val (.int p1), .val (.int p2), .val (.int p3), .val (.int p4), .val (.int p5)] []))
    refine Done.step (fun t k => XS.iloadN X0.here hx rfl (hb hby d3_8) rfl k) ?_
    show Done p e below s _ _ _ (s₁.setTop (mkF m 9 #[.val (.int p1), .val (.int p2), .val (.int p3), .val (.int p4), .val (.int p5)] [(.int p1)]))
    refine Done.step (fun t k => XS.iconst X0.here hx rfl (hb hby d3_9) k) ?_
    show Done p e below s _ _ _ (s₁.setTop (mkF m 10 #[.val (.int p1), .val (.int p2), .val (.int p3), .val (.int p4), .val (.int p5)] [(.int (1 : Int32)), (.int p1)]))
    by_cases c4 : p1 = (1 : Int32)
    · refine Done.step (fun t k => XS.icmpNo X0.here hx rfl (hb hby d3_10) rfl (teq c4).2 k) ?_
      show Done p e below s _ _ _ (s₁.setTop (mkF m 13 #[.val (.int p1), .val (.int p2), .val (.int p3), .val (.int p4), .val (.int p5)] []))
      refine Done.step (fun t k => XS.iconst X0.here hx rfl (hb hby d3_13) k) ?_
      show Done p e below s _ _ _ (s₁.setTop (mkF m 14 #[.val (.int p1), .val (.int p2), .val (.int p3), .val (.int p4), .val (.int p5)] [(.int (1 : Int32))]))
      obtain ⟨T5, h5, k5, X5, e5, E5, A5, B5, st5⟩ := newPE X0 hx hZ (hw _ (List.mem_of_getElem? (i := 11) rfl)) e0 (g := (mkF m 14 #[.val (.int p1), .val (.int p2), .val (.int p3), .val (.int p4), .val (.int p5)] [(.int (1 : Int32))])) rfl (hb hby d3_14) rfl (by decide) (cap := 1) (by decide) (by decide) (by decide) (by decide) (ad := "[I") (by decide)
      obtain ⟨b5, gq5⟩ : ∃ z, z = h0.size := ⟨_, rfl⟩
      rw [← gq5] at A5 B5 st5
      have g_b5 : n0 ≤ b5 := Nat.le_trans Z0 (Nat.le_of_eq gq5.symm)
      have sz_b5 : h0.size ≤ b5 := Nat.le_trans (Keep.refl h0 []).1 (Nat.le_of_eq gq5.symm)
      have Z5 : n0 ≤ h5.size := Nat.le_trans Z0 E5.1
      have K5 : Keep h0 h5 [] := (Keep.refl h0 []).ext E5
      have f6 : Ax Z h5 b5 .int [(.int (0 : Int32))] := Ax.new (ty := .int) (i := 1) A5 (by decide)
      refine Done.step st5 ?_
      show Done p e below s _ _ _ (T5.setTop (mkF m 16 #[.val (.int p1), .val (.int p2), .val (.int p3), .val (.int p4), .val (.int p5)] [(.ref b5)]))
      refine Done.step (fun t k => XS.dup X5.here hx rfl (hb hby d3_16) rfl rfl k) ?_
      show Done p e below s _ _ _ (T5.setTop (mkF m 17 #[.val (.int p1), .val (.int p2), .val (.int p3), .val (.int p4), .val (.int p5)] [(.ref b5), (.ref b5)]))
      refine Done.step (fun t k => XS.iconst X5.here hx rfl (hb hby d3_17) k) ?_
      show Done p e below s _ _ _ (T5.setTop (mkF m 18 #[.val (.int p1), .val (.int p2), .val (.int p3), .val (.int p4), .val (.int p5)] [(.int (0 : Int32)), (.ref b5), (.ref b5)]))
      refine Done.step (fun t k => XS.iloadN X5.here hx rfl (hb hby d3_18) rfl k) ?_
      show Done p e below s _ _ _ (T5.setTop (mkF m 19 #[.val (.int p1), .val (.int p2), .val (.int p3), .val (.int p4), .val (.int p5)] [(.int p2), (.int (0 : Int32)), (.ref b5), (.ref b5)]))
      obtain ⟨T7, h7, X7, e7, W7, A7, st7⟩ := stoI X5 hx hZ e5 f6 (j := (0 : Int32)) (by decide) (i := 0) (by decide) (Nat.le_of_ble_eq_true rfl) (g := (mkF m 19 #[.val (.int p1), .val (.int p2), .val (.int p3), .val (.int p4), .val (.int p5)] [(.int p2), (.int (0 : Int32)), (.ref b5), (.ref b5)])) rfl rfl (hb hby d3_19)
      have f8 : Exa Z h7 b5 "[I" := B5.wr W7
      have f9 : Ax Z h7 b5 .int [(.int p2)] := A7
      have Z7 : n0 ≤ h7.size := Nat.le_trans Z5 (Keep.of_wr W7).1
      have N7 := Fr.snoc X7 N0 g_b5
      have K7 : Keep h0 h7 [] := K5.wr W7 (Or.inr sz_b5)
      refine Done.step st7 ?_
      show Done p e below s _ _ _ (T7.setTop (mkF m 20 #[.val (.int p1), .val (.int p2), .val (.int p3), .val (.int p4), .val (.int p5)] [(.ref b5)]))
      exact Done.ref X7 hx hlk hret rfl rfl rfl (hb hby d3_20) (by decide) (by decide) ⟨b5, rfl, N7, (by rw [e7]; exact ⟨K7, by rw [show MK p1 p2 p3 p4 p5 = [p2] from by unfold MK; rw [if_neg c1, if_pos c4]]; exact f9⟩)⟩
    · refine Done.step (fun t k => XS.icmpYes X0.here hx rfl (pc0 := 10) (pc' := 21) rfl (hb hby d3_10) rfl (feq c4).2 (by decide) (by decide) k) ?_
      show Done p e below s _ _ _ (s₁.setTop (mkF m 21 #[.val (.int p1), .val (.int p2), .val (.int p3), .val (.int p4), .val (.int p5)] []))
      refine Done.step (fun t k => XS.iloadN X0.here hx rfl (hb hby d3_21) rfl k) ?_
      show Done p e below s _ _ _ (s₁.setTop (mkF m 22 #[.val (.int p1), .val (.int p2), .val (.int p3), .val (.int p4), .val (.int p5)] [(.int p1)]))
      refine Done.step (fun t k => XS.iconst X0.here hx rfl (hb hby d3_22) k) ?_
      show Done p e below s _ _ _ (s₁.setTop (mkF m 23 #[.val (.int p1), .val (.int p2), .val (.int p3), .val (.int p4), .val (.int p5)] [(.int (2 : Int32)), (.int p1)]))
      by_cases c10 : p1 = (2 : Int32)
      · refine Done.step (fun t k => XS.icmpNo X0.here hx rfl (hb hby d3_23) rfl (teq c10).2 k) ?_
        show Done p e below s _ _ _ (s₁.setTop (mkF m 26 #[.val (.int p1), .val (.int p2), .val (.int p3), .val (.int p4), .val (.int p5)] []))
        refine Done.step (fun t k => XS.iconst X0.here hx rfl (hb hby d3_26) k) ?_
        show Done p e below s _ _ _ (s₁.setTop (mkF m 27 #[.val (.int p1), .val (.int p2), .val (.int p3), .val (.int p4), .val (.int p5)] [(.int (2 : Int32))]))
        obtain ⟨T11, h11, k11, X11, e11, E11, A11, B11, st11⟩ := newPE X0 hx hZ (hw _ (List.mem_of_getElem? (i := 11) rfl)) e0 (g := (mkF m 27 #[.val (.int p1), .val (.int p2), .val (.int p3), .val (.int p4), .val (.int p5)] [(.int (2 : Int32))])) rfl (hb hby d3_27) rfl (by decide) (cap := 2) (by decide) (by decide) (by decide) (by decide) (ad := "[I") (by decide)
        obtain ⟨b11, gq11⟩ : ∃ z, z = h0.size := ⟨_, rfl⟩
        rw [← gq11] at A11 B11 st11
        have g_b11 : n0 ≤ b11 := Nat.le_trans Z0 (Nat.le_of_eq gq11.symm)
        have sz_b11 : h0.size ≤ b11 := Nat.le_trans (Keep.refl h0 []).1 (Nat.le_of_eq gq11.symm)
        have Z11 : n0 ≤ h11.size := Nat.le_trans Z0 E11.1
        have K11 : Keep h0 h11 [] := (Keep.refl h0 []).ext E11
        have f12 : Ax Z h11 b11 .int [(.int (0 : Int32)), (.int (0 : Int32))] := Ax.new (ty := .int) (i := 2) A11 (by decide)
        refine Done.step st11 ?_
        show Done p e below s _ _ _ (T11.setTop (mkF m 29 #[.val (.int p1), .val (.int p2), .val (.int p3), .val (.int p4), .val (.int p5)] [(.ref b11)]))
        refine Done.step (fun t k => XS.dup X11.here hx rfl (hb hby d3_29) rfl rfl k) ?_
        show Done p e below s _ _ _ (T11.setTop (mkF m 30 #[.val (.int p1), .val (.int p2), .val (.int p3), .val (.int p4), .val (.int p5)] [(.ref b11), (.ref b11)]))
        refine Done.step (fun t k => XS.iconst X11.here hx rfl (hb hby d3_30) k) ?_
        show Done p e below s _ _ _ (T11.setTop (mkF m 31 #[.val (.int p1), .val (.int p2), .val (.int p3), .val (.int p4), .val (.int p5)] [(.int (0 : Int32)), (.ref b11), (.ref b11)]))
        refine Done.step (fun t k => XS.iloadN X11.here hx rfl (hb hby d3_31) rfl k) ?_
        show Done p e below s _ _ _ (T11.setTop (mkF m 32 #[.val (.int p1), .val (.int p2), .val (.int p3), .val (.int p4), .val (.int p5)] [(.int p2), (.int (0 : Int32)), (.ref b11), (.ref b11)]))
        obtain ⟨T13, h13, X13, e13, W13, A13, st13⟩ := stoI X11 hx hZ e11 f12 (j := (0 : Int32)) (by decide) (i := 0) (by decide) (Nat.le_of_ble_eq_true rfl) (g := (mkF m 32 #[.val (.int p1), .val (.int p2), .val (.int p3), .val (.int p4), .val (.int p5)] [(.int p2), (.int (0 : Int32)), (.ref b11), (.ref b11)])) rfl rfl (hb hby d3_32)
        have f14 : Exa Z h13 b11 "[I" := B11.wr W13
        have f15 : Ax Z h13 b11 .int [(.int p2), (.int (0 : Int32))] := A13
        have Z13 : n0 ≤ h13.size := Nat.le_trans Z11 (Keep.of_wr W13).1
        have N13 := Fr.snoc X13 N0 g_b11
        have K13 : Keep h0 h13 [] := K11.wr W13 (Or.inr sz_b11)
        refine Done.step st13 ?_
        show Done p e below s _ _ _ (T13.setTop (mkF m 33 #[.val (.int p1), .val (.int p2), .val (.int p3), .val (.int p4), .val (.int p5)] [(.ref b11)]))
        refine Done.step (fun t k => XS.dup X13.here hx rfl (hb hby d3_33) rfl rfl k) ?_
        show Done p e below s _ _ _ (T13.setTop (mkF m 34 #[.val (.int p1), .val (.int p2), .val (.int p3), .val (.int p4), .val (.int p5)] [(.ref b11), (.ref b11)]))
        refine Done.step (fun t k => XS.iconst X13.here hx rfl (hb hby d3_34) k) ?_
        show Done p e below s _ _ _ (T13.setTop (mkF m 35 #[.val (.int p1), .val (.int p2), .val (.int p3), .val (.int p4), .val (.int p5)] [(.int (1 : Int32)), (.ref b11), (.ref b11)]))
        refine Done.step (fun t k => XS.iloadN X13.here hx rfl (hb hby d3_35) rfl k) ?_
        show Done p e below s _ _ _ (T13.setTop (mkF m 36 #[.val (.int p1), .val (.int p2), .val (.int p3), .val (.int p4), .val (.int p5)] [(.int p3), (.int (1 : Int32)), (.ref b11), (.ref b11)]))
        obtain ⟨T16, h16, X16, e16, W16, A16, st16⟩ := stoI X13 hx hZ e13 f15 (j := (1 : Int32)) (by decide) (i := 1) (by decide) (Nat.le_of_ble_eq_true rfl) (g := (mkF m 36 #[.val (.int p1), .val (.int p2), .val (.int p3), .val (.int p4), .val (.int p5)] [(.int p3), (.int (1 : Int32)), (.ref b11), (.ref b11)])) rfl rfl (hb hby d3_36)
        have f17 : Exa Z h16 b11 "[I" := f14.wr W16
        have f18 : Ax Z h16 b11 .int [(.int p2), (.int p3)] := A16
        have Z16 : n0 ≤ h16.size := Nat.le_trans Z13 (Keep.of_wr W16).1
        have N16 := Fr.snoc X16 N13 g_b11
        have K16 : Keep h0 h16 [] := K13.wr W16 (Or.inr sz_b11)
        refine Done.step st16 ?_
        show Done p e below s _ _ _ (T16.setTop (mkF m 37 #[.val (.int p1), .val (.int p2), .val (.int p3), .val (.int p4), .val (.int p5)] [(.ref b11)]))
        exact Done.ref X16 hx hlk hret rfl rfl rfl (hb hby d3_37) (by decide) (by decide) ⟨b11, rfl, N16, (by rw [e16]; exact ⟨K16, by rw [show MK p1 p2 p3 p4 p5 = [p2, p3] from by unfold MK; rw [if_neg c1, if_neg c4, if_pos c10]]; exact f18⟩)⟩
      · refine Done.step (fun t k => XS.icmpYes X0.here hx rfl (pc0 := 23) (pc' := 38) rfl (hb hby d3_23) rfl (feq c10).2 (by decide) (by decide) k) ?_
        show Done p e below s _ _ _ (s₁.setTop (mkF m 38 #[.val (.int p1), .val (.int p2), .val (.int p3), .val (.int p4), .val (.int p5)] []))
        refine Done.step (fun t k => XS.iloadN X0.here hx rfl (hb hby d3_38) rfl k) ?_
        show Done p e below s _ _ _ (s₁.setTop (mkF m 39 #[.val (.int p1), .val (.int p2), .val (.int p3), .val (.int p4), .val (.int p5)] [(.int p1)]))
        refine Done.step (fun t k => XS.iconst X0.here hx rfl (hb hby d3_39) k) ?_
        show Done p e below s _ _ _ (s₁.setTop (mkF m 40 #[.val (.int p1), .val (.int p2), .val (.int p3), .val (.int p4), .val (.int p5)] [(.int (3 : Int32)), (.int p1)]))
        by_cases c19 : p1 = (3 : Int32)
        · refine Done.step (fun t k => XS.icmpNo X0.here hx rfl (hb hby d3_40) rfl (teq c19).2 k) ?_
          show Done p e below s _ _ _ (s₁.setTop (mkF m 43 #[.val (.int p1), .val (.int p2), .val (.int p3), .val (.int p4), .val (.int p5)] []))
          refine Done.step (fun t k => XS.iconst X0.here hx rfl (hb hby d3_43) k) ?_
          show Done p e below s _ _ _ (s₁.setTop (mkF m 44 #[.val (.int p1), .val (.int p2), .val (.int p3), .val (.int p4), .val (.int p5)] [(.int (3 : Int32))]))
          obtain ⟨T20, h20, k20, X20, e20, E20, A20, B20, st20⟩ := newPE X0 hx hZ (hw _ (List.mem_of_getElem? (i := 11) rfl)) e0 (g := (mkF m 44 #[.val (.int p1), .val (.int p2), .val (.int p3), .val (.int p4), .val (.int p5)] [(.int (3 : Int32))])) rfl (hb hby d3_44) rfl (by decide) (cap := 3) (by decide) (by decide) (by decide) (by decide) (ad := "[I") (by decide)
          obtain ⟨b20, gq20⟩ : ∃ z, z = h0.size := ⟨_, rfl⟩
          rw [← gq20] at A20 B20 st20
          have g_b20 : n0 ≤ b20 := Nat.le_trans Z0 (Nat.le_of_eq gq20.symm)
          have sz_b20 : h0.size ≤ b20 := Nat.le_trans (Keep.refl h0 []).1 (Nat.le_of_eq gq20.symm)
          have Z20 : n0 ≤ h20.size := Nat.le_trans Z0 E20.1
          have K20 : Keep h0 h20 [] := (Keep.refl h0 []).ext E20
          have f21 : Ax Z h20 b20 .int [(.int (0 : Int32)), (.int (0 : Int32)), (.int (0 : Int32))] := Ax.new (ty := .int) (i := 3) A20 (by decide)
          refine Done.step st20 ?_
          show Done p e below s _ _ _ (T20.setTop (mkF m 46 #[.val (.int p1), .val (.int p2), .val (.int p3), .val (.int p4), .val (.int p5)] [(.ref b20)]))
          refine Done.step (fun t k => XS.dup X20.here hx rfl (hb hby d3_46) rfl rfl k) ?_
          show Done p e below s _ _ _ (T20.setTop (mkF m 47 #[.val (.int p1), .val (.int p2), .val (.int p3), .val (.int p4), .val (.int p5)] [(.ref b20), (.ref b20)]))
          refine Done.step (fun t k => XS.iconst X20.here hx rfl (hb hby d3_47) k) ?_
          show Done p e below s _ _ _ (T20.setTop (mkF m 48 #[.val (.int p1), .val (.int p2), .val (.int p3), .val (.int p4), .val (.int p5)] [(.int (0 : Int32)), (.ref b20), (.ref b20)]))
          refine Done.step (fun t k => XS.iloadN X20.here hx rfl (hb hby d3_48) rfl k) ?_
          show Done p e below s _ _ _ (T20.setTop (mkF m 49 #[.val (.int p1), .val (.int p2), .val (.int p3), .val (.int p4), .val (.int p5)] [(.int p2), (.int (0 : Int32)), (.ref b20), (.ref b20)]))
          obtain ⟨T22, h22, X22, e22, W22, A22, st22⟩ := stoI X20 hx hZ e20 f21 (j := (0 : Int32)) (by decide) (i := 0) (by decide) (Nat.le_of_ble_eq_true rfl) (g := (mkF m 49 #[.val (.int p1), .val (.int p2), .val (.int p3), .val (.int p4), .val (.int p5)] [(.int p2), (.int (0 : Int32)), (.ref b20), (.ref b20)])) rfl rfl (hb hby d3_49)
          have f23 : Exa Z h22 b20 "[I" := B20.wr W22
          have f24 : Ax Z h22 b20 .int [(.int p2), (.int (0 : Int32)), (.int (0 : Int32))] := A22
          have Z22 : n0 ≤ h22.size := Nat.le_trans Z20 (Keep.of_wr W22).1
          have N22 := Fr.snoc X22 N0 g_b20
          have K22 : Keep h0 h22 [] := K20.wr W22 (Or.inr sz_b20)
          refine Done.step st22 ?_
          show Done p e below s _ _ _ (T22.setTop (mkF m 50 #[.val (.int p1), .val (.int p2), .val (.int p3), .val (.int p4), .val (.int p5)] [(.ref b20)]))
          refine Done.step (fun t k => XS.dup X22.here hx rfl (hb hby d3_50) rfl rfl k) ?_
          show Done p e below s _ _ _ (T22.setTop (mkF m 51 #[.val (.int p1), .val (.int p2), .val (.int p3), .val (.int p4), .val (.int p5)] [(.ref b20), (.ref b20)]))
          refine Done.step (fun t k => XS.iconst X22.here hx rfl (hb hby d3_51) k) ?_
          show Done p e below s _ _ _ (T22.setTop (mkF m 52 #[.val (.int p1), .val (.int p2), .val (.int p3), .val (.int p4), .val (.int p5)] [(.int (1 : Int32)), (.ref b20), (.ref b20)]))
          refine Done.step (fun t k => XS.iloadN X22.here hx rfl (hb hby d3_52) rfl k) ?_
          show Done p e below s _ _ _ (T22.setTop (mkF m 53 #[.val (.int p1), .val (.int p2), .val (.int p3), .val (.int p4), .val (.int p5)] [(.int p3), (.int (1 : Int32)), (.ref b20), (.ref b20)]))
          obtain ⟨T25, h25, X25, e25, W25, A25, st25⟩ := stoI X22 hx hZ e22 f24 (j := (1 : Int32)) (by decide) (i := 1) (by decide) (Nat.le_of_ble_eq_true rfl) (g := (mkF m 53 #[.val (.int p1), .val (.int p2), .val (.int p3), .val (.int p4), .val (.int p5)] [(.int p3), (.int (1 : Int32)), (.ref b20), (.ref b20)])) rfl rfl (hb hby d3_53)
          have f26 : Exa Z h25 b20 "[I" := f23.wr W25
          have f27 : Ax Z h25 b20 .int [(.int p2), (.int p3), (.int (0 : Int32))] := A25
          have Z25 : n0 ≤ h25.size := Nat.le_trans Z22 (Keep.of_wr W25).1
          have N25 := Fr.snoc X25 N22 g_b20
          have K25 : Keep h0 h25 [] := K22.wr W25 (Or.inr sz_b20)
          refine Done.step st25 ?_
          show Done p e below s _ _ _ (T25.setTop (mkF m 54 #[.val (.int p1), .val (.int p2), .val (.int p3), .val (.int p4), .val (.int p5)] [(.ref b20)]))
          refine Done.step (fun t k => XS.dup X25.here hx rfl (hb hby d3_54) rfl rfl k) ?_
          show Done p e below s _ _ _ (T25.setTop (mkF m 55 #[.val (.int p1), .val (.int p2), .val (.int p3), .val (.int p4), .val (.int p5)] [(.ref b20), (.ref b20)]))
          refine Done.step (fun t k => XS.iconst X25.here hx rfl (hb hby d3_55) k) ?_
          show Done p e below s _ _ _ (T25.setTop (mkF m 56 #[.val (.int p1), .val (.int p2), .val (.int p3), .val (.int p4), .val (.int p5)] [(.int (2 : Int32)), (.ref b20), (.ref b20)]))
          refine Done.step (fun t k => XS.iloadN X25.here hx rfl (hb hby d3_56) rfl k) ?_
          show Done p e below s _ _ _ (T25.setTop (mkF m 57 #[.val (.int p1), .val (.int p2), .val (.int p3), .val (.int p4), .val (.int p5)] [(.int p4), (.int (2 : Int32)), (.ref b20), (.ref b20)]))
          obtain ⟨T28, h28, X28, e28, W28, A28, st28⟩ := stoI X25 hx hZ e25 f27 (j := (2 : Int32)) (by decide) (i := 2) (by decide) (Nat.le_of_ble_eq_true rfl) (g := (mkF m 57 #[.val (.int p1), .val (.int p2), .val (.int p3), .val (.int p4), .val (.int p5)] [(.int p4), (.int (2 : Int32)), (.ref b20), (.ref b20)])) rfl rfl (hb hby d3_57)
          have f29 : Exa Z h28 b20 "[I" := f26.wr W28
          have f30 : Ax Z h28 b20 .int [(.int p2), (.int p3), (.int p4)] := A28
          have Z28 : n0 ≤ h28.size := Nat.le_trans Z25 (Keep.of_wr W28).1
          have N28 := Fr.snoc X28 N25 g_b20
          have K28 : Keep h0 h28 [] := K25.wr W28 (Or.inr sz_b20)
          refine Done.step st28 ?_
          show Done p e below s _ _ _ (T28.setTop (mkF m 58 #[.val (.int p1), .val (.int p2), .val (.int p3), .val (.int p4), .val (.int p5)] [(.ref b20)]))
          exact Done.ref X28 hx hlk hret rfl rfl rfl (hb hby d3_58) (by decide) (by decide) ⟨b20, rfl, N28, (by rw [e28]; exact ⟨K28, by rw [show MK p1 p2 p3 p4 p5 = [p2, p3, p4] from by unfold MK; rw [if_neg c1, if_neg c4, if_neg c10, if_pos c19]]; exact f30⟩)⟩
        · refine Done.step (fun t k => XS.icmpYes X0.here hx rfl (pc0 := 40) (pc' := 59) rfl (hb hby d3_40) rfl (feq c19).2 (by decide) (by decide) k) ?_
          show Done p e below s _ _ _ (s₁.setTop (mkF m 59 #[.val (.int p1), .val (.int p2), .val (.int p3), .val (.int p4), .val (.int p5)] []))
          refine Done.step (fun t k => XS.iconst X0.here hx rfl (hb hby d3_59) k) ?_
          show Done p e below s _ _ _ (s₁.setTop (mkF m 60 #[.val (.int p1), .val (.int p2), .val (.int p3), .val (.int p4), .val (.int p5)] [(.int (4 : Int32))]))
          obtain ⟨T31, h31, k31, X31, e31, E31, A31, B31, st31⟩ := newPE X0 hx hZ (hw _ (List.mem_of_getElem? (i := 11) rfl)) e0 (g := (mkF m 60 #[.val (.int p1), .val (.int p2), .val (.int p3), .val (.int p4), .val (.int p5)] [(.int (4 : Int32))])) rfl (hb hby d3_60) rfl (by decide) (cap := 4) (by decide) (by decide) (by decide) (by decide) (ad := "[I") (by decide)
          obtain ⟨b31, gq31⟩ : ∃ z, z = h0.size := ⟨_, rfl⟩
          rw [← gq31] at A31 B31 st31
          have g_b31 : n0 ≤ b31 := Nat.le_trans Z0 (Nat.le_of_eq gq31.symm)
          have sz_b31 : h0.size ≤ b31 := Nat.le_trans (Keep.refl h0 []).1 (Nat.le_of_eq gq31.symm)
          have Z31 : n0 ≤ h31.size := Nat.le_trans Z0 E31.1
          have K31 : Keep h0 h31 [] := (Keep.refl h0 []).ext E31
          have f32 : Ax Z h31 b31 .int [(.int (0 : Int32)), (.int (0 : Int32)), (.int (0 : Int32)), (.int (0 : Int32))] := Ax.new (ty := .int) (i := 4) A31 (by decide)
          refine Done.step st31 ?_
          show Done p e below s _ _ _ (T31.setTop (mkF m 62 #[.val (.int p1), .val (.int p2), .val (.int p3), .val (.int p4), .val (.int p5)] [(.ref b31)]))
          refine Done.step (fun t k => XS.dup X31.here hx rfl (hb hby d3_62) rfl rfl k) ?_
          show Done p e below s _ _ _ (T31.setTop (mkF m 63 #[.val (.int p1), .val (.int p2), .val (.int p3), .val (.int p4), .val (.int p5)] [(.ref b31), (.ref b31)]))
          refine Done.step (fun t k => XS.iconst X31.here hx rfl (hb hby d3_63) k) ?_
          show Done p e below s _ _ _ (T31.setTop (mkF m 64 #[.val (.int p1), .val (.int p2), .val (.int p3), .val (.int p4), .val (.int p5)] [(.int (0 : Int32)), (.ref b31), (.ref b31)]))
          refine Done.step (fun t k => XS.iloadN X31.here hx rfl (hb hby d3_64) rfl k) ?_
          show Done p e below s _ _ _ (T31.setTop (mkF m 65 #[.val (.int p1), .val (.int p2), .val (.int p3), .val (.int p4), .val (.int p5)] [(.int p2), (.int (0 : Int32)), (.ref b31), (.ref b31)]))
          obtain ⟨T33, h33, X33, e33, W33, A33, st33⟩ := stoI X31 hx hZ e31 f32 (j := (0 : Int32)) (by decide) (i := 0) (by decide) (Nat.le_of_ble_eq_true rfl) (g := (mkF m 65 #[.val (.int p1), .val (.int p2), .val (.int p3), .val (.int p4), .val (.int p5)] [(.int p2), (.int (0 : Int32)), (.ref b31), (.ref b31)])) rfl rfl (hb hby d3_65)
          have f34 : Exa Z h33 b31 "[I" := B31.wr W33
          have f35 : Ax Z h33 b31 .int [(.int p2), (.int (0 : Int32)), (.int (0 : Int32)), (.int (0 : Int32))] := A33
          have Z33 : n0 ≤ h33.size := Nat.le_trans Z31 (Keep.of_wr W33).1
          have N33 := Fr.snoc X33 N0 g_b31
          have K33 : Keep h0 h33 [] := K31.wr W33 (Or.inr sz_b31)
          refine Done.step st33 ?_
          show Done p e below s _ _ _ (T33.setTop (mkF m 66 #[.val (.int p1), .val (.int p2), .val (.int p3), .val (.int p4), .val (.int p5)] [(.ref b31)]))
          refine Done.step (fun t k => XS.dup X33.here hx rfl (hb hby d3_66) rfl rfl k) ?_
          show Done p e below s _ _ _ (T33.setTop (mkF m 67 #[.val (.int p1), .val (.int p2), .val (.int p3), .val (.int p4), .val (.int p5)] [(.ref b31), (.ref b31)]))
          refine Done.step (fun t k => XS.iconst X33.here hx rfl (hb hby d3_67) k) ?_
          show Done p e below s _ _ _ (T33.setTop (mkF m 68 #[.val (.int p1), .val (.int p2), .val (.int p3), .val (.int p4), .val (.int p5)] [(.int (1 : Int32)), (.ref b31), (.ref b31)]))
          refine Done.step (fun t k => XS.iloadN X33.here hx rfl (hb hby d3_68) rfl k) ?_
          show Done p e below s _ _ _ (T33.setTop (mkF m 69 #[.val (.int p1), .val (.int p2), .val (.int p3), .val (.int p4), .val (.int p5)] [(.int p3), (.int (1 : Int32)), (.ref b31), (.ref b31)]))
          obtain ⟨T36, h36, X36, e36, W36, A36, st36⟩ := stoI X33 hx hZ e33 f35 (j := (1 : Int32)) (by decide) (i := 1) (by decide) (Nat.le_of_ble_eq_true rfl) (g := (mkF m 69 #[.val (.int p1), .val (.int p2), .val (.int p3), .val (.int p4), .val (.int p5)] [(.int p3), (.int (1 : Int32)), (.ref b31), (.ref b31)])) rfl rfl (hb hby d3_69)
          have f37 : Exa Z h36 b31 "[I" := f34.wr W36
          have f38 : Ax Z h36 b31 .int [(.int p2), (.int p3), (.int (0 : Int32)), (.int (0 : Int32))] := A36
          have Z36 : n0 ≤ h36.size := Nat.le_trans Z33 (Keep.of_wr W36).1
          have N36 := Fr.snoc X36 N33 g_b31
          have K36 : Keep h0 h36 [] := K33.wr W36 (Or.inr sz_b31)
          refine Done.step st36 ?_
          show Done p e below s _ _ _ (T36.setTop (mkF m 70 #[.val (.int p1), .val (.int p2), .val (.int p3), .val (.int p4), .val (.int p5)] [(.ref b31)]))
          refine Done.step (fun t k => XS.dup X36.here hx rfl (hb hby d3_70) rfl rfl k) ?_
          show Done p e below s _ _ _ (T36.setTop (mkF m 71 #[.val (.int p1), .val (.int p2), .val (.int p3), .val (.int p4), .val (.int p5)] [(.ref b31), (.ref b31)]))
          refine Done.step (fun t k => XS.iconst X36.here hx rfl (hb hby d3_71) k) ?_
          show Done p e below s _ _ _ (T36.setTop (mkF m 72 #[.val (.int p1), .val (.int p2), .val (.int p3), .val (.int p4), .val (.int p5)] [(.int (2 : Int32)), (.ref b31), (.ref b31)]))
          refine Done.step (fun t k => XS.iloadN X36.here hx rfl (hb hby d3_72) rfl k) ?_
          show Done p e below s _ _ _ (T36.setTop (mkF m 73 #[.val (.int p1), .val (.int p2), .val (.int p3), .val (.int p4), .val (.int p5)] [(.int p4), (.int (2 : Int32)), (.ref b31), (.ref b31)]))
          obtain ⟨T39, h39, X39, e39, W39, A39, st39⟩ := stoI X36 hx hZ e36 f38 (j := (2 : Int32)) (by decide) (i := 2) (by decide) (Nat.le_of_ble_eq_true rfl) (g := (mkF m 73 #[.val (.int p1), .val (.int p2), .val (.int p3), .val (.int p4), .val (.int p5)] [(.int p4), (.int (2 : Int32)), (.ref b31), (.ref b31)])) rfl rfl (hb hby d3_73)
          have f40 : Exa Z h39 b31 "[I" := f37.wr W39
          have f41 : Ax Z h39 b31 .int [(.int p2), (.int p3), (.int p4), (.int (0 : Int32))] := A39
          have Z39 : n0 ≤ h39.size := Nat.le_trans Z36 (Keep.of_wr W39).1
          have N39 := Fr.snoc X39 N36 g_b31
          have K39 : Keep h0 h39 [] := K36.wr W39 (Or.inr sz_b31)
          refine Done.step st39 ?_
          show Done p e below s _ _ _ (T39.setTop (mkF m 74 #[.val (.int p1), .val (.int p2), .val (.int p3), .val (.int p4), .val (.int p5)] [(.ref b31)]))
          refine Done.step (fun t k => XS.dup X39.here hx rfl (hb hby d3_74) rfl rfl k) ?_
          show Done p e below s _ _ _ (T39.setTop (mkF m 75 #[.val (.int p1), .val (.int p2), .val (.int p3), .val (.int p4), .val (.int p5)] [(.ref b31), (.ref b31)]))
          refine Done.step (fun t k => XS.iconst X39.here hx rfl (hb hby d3_75) k) ?_
          show Done p e below s _ _ _ (T39.setTop (mkF m 76 #[.val (.int p1), .val (.int p2), .val (.int p3), .val (.int p4), .val (.int p5)] [(.int (3 : Int32)), (.ref b31), (.ref b31)]))
          refine Done.step (fun t k => XS.iload X39.here hx rfl (hb hby d3_76) rfl k) ?_
          show Done p e below s _ _ _ (T39.setTop (mkF m 78 #[.val (.int p1), .val (.int p2), .val (.int p3), .val (.int p4), .val (.int p5)] [(.int p5), (.int (3 : Int32)), (.ref b31), (.ref b31)]))
          obtain ⟨T42, h42, X42, e42, W42, A42, st42⟩ := stoI X39 hx hZ e39 f41 (j := (3 : Int32)) (by decide) (i := 3) (by decide) (Nat.le_of_ble_eq_true rfl) (g := (mkF m 78 #[.val (.int p1), .val (.int p2), .val (.int p3), .val (.int p4), .val (.int p5)] [(.int p5), (.int (3 : Int32)), (.ref b31), (.ref b31)])) rfl rfl (hb hby d3_78)
          have f43 : Exa Z h42 b31 "[I" := f40.wr W42
          have f44 : Ax Z h42 b31 .int [(.int p2), (.int p3), (.int p4), (.int p5)] := A42
          have Z42 : n0 ≤ h42.size := Nat.le_trans Z39 (Keep.of_wr W42).1
          have N42 := Fr.snoc X42 N39 g_b31
          have K42 : Keep h0 h42 [] := K39.wr W42 (Or.inr sz_b31)
          refine Done.step st42 ?_
          show Done p e below s _ _ _ (T42.setTop (mkF m 79 #[.val (.int p1), .val (.int p2), .val (.int p3), .val (.int p4), .val (.int p5)] [(.ref b31)]))
          exact Done.ref X42 hx hlk hret rfl rfl rfl (hb hby d3_79) (by decide) (by decide) ⟨b31, rfl, N42, (by rw [e42]; exact ⟨K42, by rw [show MK p1 p2 p3 p4 p5 = [p2, p3, p4, p5] from by unfold MK; rw [if_neg c1, if_neg c4, if_neg c10, if_neg c19]]; exact f44⟩)⟩
def Up (xs : List Int32) (t k : Int32) : Prop := 0 ≤ k.toInt ∧ k.toInt ≤ xs.length ∧ (∀ (j : Nat) (x : Int32), xs[j]? = some x → (j : Int) < k.toInt → x.toInt ≤ t.toInt) ∧ ∀ (j : Nat) (x : Int32), xs[j]? = some x → k.toInt ≤ (j : Int) → t.toInt < x.toInt
def Asc (xs : List Int32) : Prop := ∀ (i j : Nat) (x y : Int32), xs[i]? = some x → xs[j]? = some y → i ≤ j → x.toInt ≤ y.toInt
theorem own_mid (i j : Int32) (h1 : 0 ≤ i.toInt) (h2 : i.toInt ≤ j.toInt) (h3 : j.toInt < 1073741824) : (((i + j).toUInt32 >>> ((1 : Int32) &&& 31).toUInt32).toInt32).toInt = (i.toInt + j.toInt) / 2 := by
  have a := c_iushr (i + j) (1 : Int32) 1 (by decide) (by decide)
  have b := c_iadd i j
  have r := rng32 (i + j)
  have e : (i + j).toInt = i.toInt + j.toInt := by omega
  rw [a, e]
  omega
theorem d5_5 : decode prog_115_method_13_code 5 = .ok (.iload_n 2, 1) := by decide +kernel
theorem d5_6 : decode prog_115_method_13_code 6 = .ok (.iload_n 3, 1) := by decide +kernel
theorem d5_7 : decode prog_115_method_13_code 7 = .ok (.if_icmp .ge 32, 3) := by decide +kernel
theorem d5_10 : decode prog_115_method_13_code 10 = .ok (.iload_n 2, 1) := by decide +kernel
theorem d5_11 : decode prog_115_method_13_code 11 = .ok (.iload_n 3, 1) := by decide +kernel
theorem d5_12 : decode prog_115_method_13_code 12 = .ok (.iadd, 1) := by decide +kernel
theorem d5_13 : decode prog_115_method_13_code 13 = .ok (.iconst 1, 1) := by decide +kernel
theorem d5_14 : decode prog_115_method_13_code 14 = .ok (.iushr, 1) := by decide +kernel
theorem d5_15 : decode prog_115_method_13_code 15 = .ok (.istore 4, 2) := by decide +kernel
theorem d5_17 : decode prog_115_method_13_code 17 = .ok (.aload_n 0, 1) := by decide +kernel
theorem d5_18 : decode prog_115_method_13_code 18 = .ok (.iload 4, 2) := by decide +kernel
theorem d5_20 : decode prog_115_method_13_code 20 = .ok (.iaload, 1) := by decide +kernel
theorem d5_21 : decode prog_115_method_13_code 21 = .ok (.iload_n 1, 1) := by decide +kernel
theorem d5_22 : decode prog_115_method_13_code 22 = .ok (.if_icmp .gt 11, 3) := by decide +kernel
theorem d5_25 : decode prog_115_method_13_code 25 = .ok (.iload 4, 2) := by decide +kernel
theorem d5_27 : decode prog_115_method_13_code 27 = .ok (.iconst 1, 1) := by decide +kernel
theorem d5_28 : decode prog_115_method_13_code 28 = .ok (.iadd, 1) := by decide +kernel
theorem d5_29 : decode prog_115_method_13_code 29 = .ok (.istore_n 2, 1) := by decide +kernel
theorem d5_30 : decode prog_115_method_13_code 30 = .ok (.goto 6, 3) := by decide +kernel
theorem d5_33 : decode prog_115_method_13_code 33 = .ok (.iload 4, 2) := by decide +kernel
theorem d5_35 : decode prog_115_method_13_code 35 = .ok (.istore_n 3, 1) := by decide +kernel
theorem d5_36 : decode prog_115_method_13_code 36 = .ok (.goto (-31), 3) := by decide +kernel
theorem d5_39 : decode prog_115_method_13_code 39 = .ok (.iload_n 2, 1) := by decide +kernel
theorem d5_40 : decode prog_115_method_13_code 40 = .ok (.ireturn, 1) := by decide +kernel
set_option maxRecDepth 65536 in
set_option maxHeartbeats 40000000 in
theorem lp5 {p : Program} {l : Launch} {e : Env} {s : State} {m : MethodId} {args : Array Value} {below : List Frame} {meth : Method} {c : Code} {Z : State} {a0 : Array Value} {h0 : Heap} {n0 : Nat} (a1 : Addr) (p2 : Int32) (xs : List Int32)
    (hx : p.tables.exec = Jvm.exec) (hZ : Z.Warmed39 s.vm) (hw : ∀ d ∈ tables_1, d.before a0 Z = true) (hby : c.code = prog_115_method_13_code) (hml : c.maxLocals = 5) (hown : s.vm.findClass "com/example/ruled_ledger/ruledledger/rules/SuperclassForest" = some m.cls) (hlk : meth.locks = false) (hret : meth.sig.returnType = (some .int : Option FieldType)) (hnm : meth.name = "startAbove") (A1 : Ax Z h0 a1 .int (xs.map Value.int)) (hasc : Asc xs) (hlen : xs.length < 1073741824) :
    ∀ (k : Nat) (T : State) (locs : List Loc) (i2 : Int32) (i3 : Int32) (s4 : Slot) (X0 : Stand p l e ({ frames := 0, cells := 0, slots := 0, locals := 0 } : Room) s m args below meth c T locs 0 0) (N0 : Fr n0 locs) (Z0 : n0 ≤ h0.size) (e0 : T.heap = h0) (hs4 : s4 = Slot.unset ∨ ∃ z : Int32, s4 = .val (.int z)) (hk : (i3.toInt - i2.toInt).toNat < k) (hi0 : 0 ≤ i2.toInt) (hi1 : i2.toInt ≤ i3.toInt) (hi2 : i3.toInt ≤ xs.length) (hlo : ∀ (j : Nat) (x : Int32), xs[j]? = some x → (j : Int) < i2.toInt → x.toInt ≤ p2.toInt) (hhi : ∀ (j : Nat) (x : Int32), xs[j]? = some x → i3.toInt ≤ (j : Int) → p2.toInt < x.toInt), Done p e below s (fun v h L => (∃ k : Int32, v = some (.int k) ∧ Up xs p2 k) ∧ Fr n0 L ∧ h = h0) ({ frames := 0, cells := 0, slots := 0, locals := 0 } : Room).cells ({ frames := 0, cells := 0, slots := 0, locals := 0 } : Room).slots (T.setTop (mkF m 5 #[.val (.ref a1), .val (.int p2), .val (.int i2), .val (.int i3), s4] [])) := by
  intro k
  induction k with
  | zero => intro T locs i2 i3 s4 X0 N0 Z0 e0 hs4 hk hi0 hi1 hi2 hlo hhi; exact absurd hk (Nat.not_lt_zero _)
  | succ k ih =>
    intro T locs i2 i3 s4 X0 N0 Z0 e0 hs4 hk hi0 hi1 hi2 hlo hhi
    show Done p e below s _ _ _ (T.setTop (mkF m 5 #[.val (.ref a1), .val (.int p2), .val (.int i2), .val (.int i3), s4] []))
    refine Done.step (fun t k => XS.iloadN X0.here hx rfl (hb hby d5_5) rfl k) ?_
    show Done p e below s _ _ _ (T.setTop (mkF m 6 #[.val (.ref a1), .val (.int p2), .val (.int i2), .val (.int i3), s4] [(.int i2)]))
    refine Done.step (fun t k => XS.iloadN X0.here hx rfl (hb hby d5_6) rfl k) ?_
    show Done p e below s _ _ _ (T.setTop (mkF m 7 #[.val (.ref a1), .val (.int p2), .val (.int i2), .val (.int i3), s4] [(.int i3), (.int i2)]))
    by_cases c1 : i2 < i3
    · refine Done.step (fun t k => XS.icmpNo X0.here hx rfl (hb hby d5_7) rfl (tlt c1).2.1 k) ?_
      show Done p e below s _ _ _ (T.setTop (mkF m 10 #[.val (.ref a1), .val (.int p2), .val (.int i2), .val (.int i3), s4] []))
      refine Done.step (fun t k => XS.iloadN X0.here hx rfl (hb hby d5_10) rfl k) ?_
      show Done p e below s _ _ _ (T.setTop (mkF m 11 #[.val (.ref a1), .val (.int p2), .val (.int i2), .val (.int i3), s4] [(.int i2)]))
      refine Done.step (fun t k => XS.iloadN X0.here hx rfl (hb hby d5_11) rfl k) ?_
      show Done p e below s _ _ _ (T.setTop (mkF m 12 #[.val (.ref a1), .val (.int p2), .val (.int i2), .val (.int i3), s4] [(.int i3), (.int i2)]))
      refine Done.step (fun t k => XS.iadd X0.here hx rfl (hb hby d5_12) rfl k) ?_
      show Done p e below s _ _ _ (T.setTop (mkF m 13 #[.val (.ref a1), .val (.int p2), .val (.int i2), .val (.int i3), s4] [(.int (i2 + i3))]))
      refine Done.step (fun t k => XS.iconst X0.here hx rfl (hb hby d5_13) k) ?_
      show Done p e below s _ _ _ (T.setTop (mkF m 14 #[.val (.ref a1), .val (.int p2), .val (.int i2), .val (.int i3), s4] [(.int (1 : Int32)), (.int (i2 + i3))]))
      refine Done.step (fun t k => XS.iushr X0.here hx rfl (hb hby d5_14) rfl k) ?_
      show Done p e below s _ _ _ (T.setTop (mkF m 15 #[.val (.ref a1), .val (.int p2), .val (.int i2), .val (.int i3), s4] [(.int (((i2 + i3).toUInt32 >>> ((1 : Int32) &&& 31).toUInt32).toInt32))]))
      refine Done.step (fun t k => XS.istore X0.here hx rfl (hb hby d5_15) rfl (l' := #[.val (.ref a1), .val (.int p2), .val (.int i2), .val (.int i3), .val (.int (((i2 + i3).toUInt32 >>> ((1 : Int32) &&& 31).toUInt32).toInt32))]) (by rcases hs4 with rfl | ⟨z, rfl⟩ <;> rfl) k) ?_
      show Done p e below s _ _ _ (T.setTop (mkF m 17 #[.val (.ref a1), .val (.int p2), .val (.int i2), .val (.int i3), .val (.int (((i2 + i3).toUInt32 >>> ((1 : Int32) &&& 31).toUInt32).toInt32))] []))
      refine Done.step (fun t k => XS.aloadN X0.here hx rfl (hb hby d5_17) rfl rfl k) ?_
      show Done p e below s _ _ _ (T.setTop (mkF m 18 #[.val (.ref a1), .val (.int p2), .val (.int i2), .val (.int i3), .val (.int (((i2 + i3).toUInt32 >>> ((1 : Int32) &&& 31).toUInt32).toInt32))] [(.ref a1)]))
      refine Done.step (fun t k => XS.iload X0.here hx rfl (hb hby d5_18) rfl k) ?_
      show Done p e below s _ _ _ (T.setTop (mkF m 20 #[.val (.ref a1), .val (.int p2), .val (.int i2), .val (.int i3), .val (.int (((i2 + i3).toUInt32 >>> ((1 : Int32) &&& 31).toUInt32).toInt32))] [(.int (((i2 + i3).toUInt32 >>> ((1 : Int32) &&& 31).toUInt32).toInt32)), (.ref a1)]))
      have hm : (((i2 + i3).toUInt32 >>> ((1 : Int32) &&& 31).toUInt32).toInt32).toInt = (i2.toInt + i3.toInt) / 2 := own_mid i2 i3 hi0 hi1 (by omega)
      have hmn : ¬ (((i2 + i3).toUInt32 >>> ((1 : Int32) &&& 31).toUInt32).toInt32) < 0 := by rw [Int32.lt_iff_toInt_lt, hm]; show ¬ _ < (0 : Int); omega
      have hmc : ((((i2 + i3).toUInt32 >>> ((1 : Int32) &&& 31).toUInt32).toInt32).toNatClampNeg : Int) = (i2.toInt + i3.toInt) / 2 := by rw [Int32.toNatClampNeg, hm]; omega
      have hlt : i2.toInt < i3.toInt := Int32.lt_iff_toInt_lt.mp c1
      obtain ⟨xv, hxv⟩ : ∃ x, xs[(((i2 + i3).toUInt32 >>> ((1 : Int32) &&& 31).toUInt32).toInt32).toNatClampNeg]? = some x := ⟨_, List.getElem?_eq_getElem (by omega)⟩
      refine Done.step (ldI X0 hx hZ e0 A1 (j := (((i2 + i3).toUInt32 >>> ((1 : Int32) &&& 31).toUInt32).toInt32)) (x := (.int xv)) hmn (by rw [List.getElem?_map, hxv]; rfl) (g := (mkF m 20 #[.val (.ref a1), .val (.int p2), .val (.int i2), .val (.int i3), .val (.int (((i2 + i3).toUInt32 >>> ((1 : Int32) &&& 31).toUInt32).toInt32))] [(.int (((i2 + i3).toUInt32 >>> ((1 : Int32) &&& 31).toUInt32).toInt32)), (.ref a1)])) rfl rfl (hb hby d5_20)) ?_
      show Done p e below s _ _ _ (T.setTop (mkF m 21 #[.val (.ref a1), .val (.int p2), .val (.int i2), .val (.int i3), .val (.int (((i2 + i3).toUInt32 >>> ((1 : Int32) &&& 31).toUInt32).toInt32))] [(.int xv)]))
      refine Done.step (fun t k => XS.iloadN X0.here hx rfl (hb hby d5_21) rfl k) ?_
      show Done p e below s _ _ _ (T.setTop (mkF m 22 #[.val (.ref a1), .val (.int p2), .val (.int i2), .val (.int i3), .val (.int (((i2 + i3).toUInt32 >>> ((1 : Int32) &&& 31).toUInt32).toInt32))] [(.int p2), (.int xv)]))
      by_cases c2 : p2 < xv
      · refine Done.step (fun t k => XS.icmpYes X0.here hx rfl (pc0 := 22) (pc' := 33) rfl (hb hby d5_22) rfl (tlt c2).2.2.1 (by decide) (by decide) k) ?_
        show Done p e below s _ _ _ (T.setTop (mkF m 33 #[.val (.ref a1), .val (.int p2), .val (.int i2), .val (.int i3), .val (.int (((i2 + i3).toUInt32 >>> ((1 : Int32) &&& 31).toUInt32).toInt32))] []))
        refine Done.step (fun t k => XS.iload X0.here hx rfl (hb hby d5_33) rfl k) ?_
        show Done p e below s _ _ _ (T.setTop (mkF m 35 #[.val (.ref a1), .val (.int p2), .val (.int i2), .val (.int i3), .val (.int (((i2 + i3).toUInt32 >>> ((1 : Int32) &&& 31).toUInt32).toInt32))] [(.int (((i2 + i3).toUInt32 >>> ((1 : Int32) &&& 31).toUInt32).toInt32))]))
        refine Done.step (fun t k => XS.istoreN X0.here hx rfl (hb hby d5_35) rfl (l' := #[.val (.ref a1), .val (.int p2), .val (.int i2), .val (.int (((i2 + i3).toUInt32 >>> ((1 : Int32) &&& 31).toUInt32).toInt32)), .val (.int (((i2 + i3).toUInt32 >>> ((1 : Int32) &&& 31).toUInt32).toInt32))]) rfl k) ?_
        show Done p e below s _ _ _ (T.setTop (mkF m 36 #[.val (.ref a1), .val (.int p2), .val (.int i2), .val (.int (((i2 + i3).toUInt32 >>> ((1 : Int32) &&& 31).toUInt32).toInt32)), .val (.int (((i2 + i3).toUInt32 >>> ((1 : Int32) &&& 31).toUInt32).toInt32))] []))
        refine Done.step (fun t k => XS.goto X0.here hx rfl (pc0 := 36) (pc' := 5) rfl (hb hby d5_36) (by decide) (by decide) k) ?_
        show Done p e below s _ _ _ (T.setTop (mkF m 5 #[.val (.ref a1), .val (.int p2), .val (.int i2), .val (.int (((i2 + i3).toUInt32 >>> ((1 : Int32) &&& 31).toUInt32).toInt32)), .val (.int (((i2 + i3).toUInt32 >>> ((1 : Int32) &&& 31).toUInt32).toInt32))] []))
        have hxc := Int32.lt_iff_toInt_lt (x := p2) (y := xv)
        exact ih T _ i2 (((i2 + i3).toUInt32 >>> ((1 : Int32) &&& 31).toUInt32).toInt32) (.val (.int (((i2 + i3).toUInt32 >>> ((1 : Int32) &&& 31).toUInt32).toInt32))) X0 N0 Z0 e0 (Or.inr ⟨_, rfl⟩) (by omega) hi0 (by omega) (by omega) hlo (fun j x hj hq => by have := hasc _ _ _ _ hxv hj (by omega); have := hxc.mp c2; omega)
      · refine Done.step (fun t k => XS.icmpNo X0.here hx rfl (hb hby d5_22) rfl (flt c2).2.2.1 k) ?_
        show Done p e below s _ _ _ (T.setTop (mkF m 25 #[.val (.ref a1), .val (.int p2), .val (.int i2), .val (.int i3), .val (.int (((i2 + i3).toUInt32 >>> ((1 : Int32) &&& 31).toUInt32).toInt32))] []))
        refine Done.step (fun t k => XS.iload X0.here hx rfl (hb hby d5_25) rfl k) ?_
        show Done p e below s _ _ _ (T.setTop (mkF m 27 #[.val (.ref a1), .val (.int p2), .val (.int i2), .val (.int i3), .val (.int (((i2 + i3).toUInt32 >>> ((1 : Int32) &&& 31).toUInt32).toInt32))] [(.int (((i2 + i3).toUInt32 >>> ((1 : Int32) &&& 31).toUInt32).toInt32))]))
        refine Done.step (fun t k => XS.iconst X0.here hx rfl (hb hby d5_27) k) ?_
        show Done p e below s _ _ _ (T.setTop (mkF m 28 #[.val (.ref a1), .val (.int p2), .val (.int i2), .val (.int i3), .val (.int (((i2 + i3).toUInt32 >>> ((1 : Int32) &&& 31).toUInt32).toInt32))] [(.int (1 : Int32)), (.int (((i2 + i3).toUInt32 >>> ((1 : Int32) &&& 31).toUInt32).toInt32))]))
        refine Done.step (fun t k => XS.iadd X0.here hx rfl (hb hby d5_28) rfl k) ?_
        show Done p e below s _ _ _ (T.setTop (mkF m 29 #[.val (.ref a1), .val (.int p2), .val (.int i2), .val (.int i3), .val (.int (((i2 + i3).toUInt32 >>> ((1 : Int32) &&& 31).toUInt32).toInt32))] [(.int ((((i2 + i3).toUInt32 >>> ((1 : Int32) &&& 31).toUInt32).toInt32) + (1 : Int32)))]))
        refine Done.step (fun t k => XS.istoreN X0.here hx rfl (hb hby d5_29) rfl (l' := #[.val (.ref a1), .val (.int p2), .val (.int ((((i2 + i3).toUInt32 >>> ((1 : Int32) &&& 31).toUInt32).toInt32) + (1 : Int32))), .val (.int i3), .val (.int (((i2 + i3).toUInt32 >>> ((1 : Int32) &&& 31).toUInt32).toInt32))]) rfl k) ?_
        show Done p e below s _ _ _ (T.setTop (mkF m 30 #[.val (.ref a1), .val (.int p2), .val (.int ((((i2 + i3).toUInt32 >>> ((1 : Int32) &&& 31).toUInt32).toInt32) + (1 : Int32))), .val (.int i3), .val (.int (((i2 + i3).toUInt32 >>> ((1 : Int32) &&& 31).toUInt32).toInt32))] []))
        refine Done.step (fun t k => XS.goto X0.here hx rfl (pc0 := 30) (pc' := 36) rfl (hb hby d5_30) (by decide) (by decide) k) ?_
        show Done p e below s _ _ _ (T.setTop (mkF m 36 #[.val (.ref a1), .val (.int p2), .val (.int ((((i2 + i3).toUInt32 >>> ((1 : Int32) &&& 31).toUInt32).toInt32) + (1 : Int32))), .val (.int i3), .val (.int (((i2 + i3).toUInt32 >>> ((1 : Int32) &&& 31).toUInt32).toInt32))] []))
        refine Done.step (fun t k => XS.goto X0.here hx rfl (pc0 := 36) (pc' := 5) rfl (hb hby d5_36) (by decide) (by decide) k) ?_
        show Done p e below s _ _ _ (T.setTop (mkF m 5 #[.val (.ref a1), .val (.int p2), .val (.int ((((i2 + i3).toUInt32 >>> ((1 : Int32) &&& 31).toUInt32).toInt32) + (1 : Int32))), .val (.int i3), .val (.int (((i2 + i3).toUInt32 >>> ((1 : Int32) &&& 31).toUInt32).toInt32))] []))
        have hxc := Int32.lt_iff_toInt_lt (x := p2) (y := xv)
        have hmp : ((((i2 + i3).toUInt32 >>> ((1 : Int32) &&& 31).toUInt32).toInt32) + (1 : Int32)).toInt = (i2.toInt + i3.toInt) / 2 + 1 := by have a := c_iadd (((i2 + i3).toUInt32 >>> ((1 : Int32) &&& 31).toUInt32).toInt32) (1 : Int32); have r := rng32 ((((i2 + i3).toUInt32 >>> ((1 : Int32) &&& 31).toUInt32).toInt32) + (1 : Int32)); have e1 : (1 : Int32).toInt = 1 := rfl; omega
        exact ih T _ ((((i2 + i3).toUInt32 >>> ((1 : Int32) &&& 31).toUInt32).toInt32) + (1 : Int32)) i3 (.val (.int (((i2 + i3).toUInt32 >>> ((1 : Int32) &&& 31).toUInt32).toInt32))) X0 N0 Z0 e0 (Or.inr ⟨_, rfl⟩) (by omega) (by omega) (by omega) hi2 (fun j x hj hq => by have := hasc _ _ _ _ hj hxv (by omega); have := Int.not_lt.mp (fun q => c2 (hxc.mpr q)); omega) hhi
    · refine Done.step (fun t k => XS.icmpYes X0.here hx rfl (pc0 := 7) (pc' := 39) rfl (hb hby d5_7) rfl (flt c1).2.1 (by decide) (by decide) k) ?_
      show Done p e below s _ _ _ (T.setTop (mkF m 39 #[.val (.ref a1), .val (.int p2), .val (.int i2), .val (.int i3), s4] []))
      refine Done.step (fun t k => XS.iloadN X0.here hx rfl (hb hby d5_39) rfl k) ?_
      show Done p e below s _ _ _ (T.setTop (mkF m 40 #[.val (.ref a1), .val (.int p2), .val (.int i2), .val (.int i3), s4] [(.int i2)]))
      have hge : i3.toInt ≤ i2.toInt := by have := Int.not_lt.mp (fun q => c1 (Int32.lt_iff_toInt_lt.mpr q)); omega
      exact Done.int X0 hx hlk hret (hb hby d5_40) (by decide) (by decide) ⟨⟨i2, rfl, hi0, by omega, hlo, fun j x hj hq => hhi j x hj (by omega)⟩, N0, e0⟩
theorem d5_0 : decode prog_115_method_13_code 0 = .ok (.iconst 0, 1) := by decide +kernel
theorem d5_1 : decode prog_115_method_13_code 1 = .ok (.istore_n 2, 1) := by decide +kernel
theorem d5_2 : decode prog_115_method_13_code 2 = .ok (.aload_n 0, 1) := by decide +kernel
theorem d5_3 : decode prog_115_method_13_code 3 = .ok (.arraylength, 1) := by decide +kernel
theorem d5_4 : decode prog_115_method_13_code 4 = .ok (.istore_n 3, 1) := by decide +kernel
theorem pn_5 : plainName "com/example/ruled_ledger/ruledledger/rules/SuperclassForest" = true := by first | (simp [plainName, overriddenIn]; done) | decide +kernel
theorem ef_5 (m : MethodId) (a1 : Addr) (p2 : Int32) : entryFrame m #[(.ref a1), (.int p2)] 5 = mkF m 0 #[.val (.ref a1), .val (.int p2), .unset, .unset, .unset] [] := by first | (simp [entryFrame, mkF, argsToLocals, Value.category]; done) | rfl
def Qrm5 (Z : State) (a1 : Addr) (p2 : Int32) (xs : List Int32) (h0 : Heap) (n0 : Nat) : Option Value → Heap → List Loc → Prop := fun v h L => (∃ k : Int32, v = some (.int k) ∧ Up xs p2 k) ∧ Fr n0 L ∧ h = h0
set_option maxRecDepth 65536 in
set_option maxHeartbeats 40000000 in
theorem rm5 (l : Launch) (Z : State) (a0 : Array Value) (hw : ∀ d ∈ tables_1, d.before a0 Z = true) (ws : List Jvm.Cond) (a1 : Addr) (p2 : Int32) (xs : List Int32) (h0 : Heap) (n0 : Nat) (Z0 : n0 ≤ h0.size) (A1 : Ax Z h0 a1 .int (xs.map Value.int)) (hasc : Asc xs) (hlen : xs.length < 1073741824) :
    MetFree l (⟨"com/example/ruled_ledger/ruledledger/rules/SuperclassForest", "startAbove", "([II)I"⟩ : MethodName) (head1 (Jvm.Cond.code (⟨"com/example/ruled_ledger/ruledledger/rules/SuperclassForest", "startAbove", "([II)I"⟩ : MethodName) prog_115_method_13_code 5 (some .int) :: ws) ({ frames := 0, cells := 0, slots := 0, locals := 0 } : Room)) (fun a U => a = #[(.ref a1), (.int p2)] ∧ Z.Warmed39 U.vm ∧ U.heap = h0) (fun _ _ _ _ _ => True) (fun _ U o U' => ∃ v L, o = .returned v ∧ Qrm5 Z a1 p2 xs h0 n0 v U'.heap L ∧ FrameEnd U o U' L ({ frames := 0, cells := 0, slots := 0, locals := 0 } : Room).cells ({ frames := 0, cells := 0, slots := 0, locals := 0 } : Room).slots) := by
  refine MetFree.of_bodySF (plainFor_of_name pn_5) hisR ?_
  intro p e s m args below meth c s₁ Bd hml0 hP hK
  obtain ⟨rfl, hZ, hh⟩ := hP
  have hx := Bd.exec
  have hby := Bd.bytes
  have hml : c.maxLocals = 5 := hml0
  have hown : s.vm.findClass "com/example/ruled_ledger/ruledledger/rules/SuperclassForest" = some m.cls := findClass_of_methodNamed Bd.named
  have hnm := (name_of_methodNamed Bd.named Bd.method).1
  have hlk : meth.locks = false := BodyLoose.notSynchronized Bd
  have hret := Bd.returns
  have X0 : Stand p l e ({ frames := 0, cells := 0, slots := 0, locals := 0 } : Room) s m #[(.ref a1), (.int p2)] below meth c s₁ [] 0 0 := Stand.of_body Bd
  have e0 : s₁.heap = h0 := by rw [← hh, Bd.state]; rfl
  have N0 := Fr.nil n0
  show Done p e below s (Qrm5 Z a1 p2 xs h0 n0) ({ frames := 0, cells := 0, slots := 0, locals := 0 } : Room).cells ({ frames := 0, cells := 0, slots := 0, locals := 0 } : Room).slots (s₁.setTop (entryFrame m #[(.ref a1), (.int p2)] 5))
  refine Done.step (fun t k => castTop (ef_5 m a1 p2) k) ?_
  show Done p e below s _ _ _ (s₁.setTop (mkF m 0 #[.val (.ref a1), .val (.int p2), .unset, .unset, .unset] []))
  refine Done.step (fun t k => XS.iconst X0.here hx rfl (hb hby d5_0) k) ?_
  show Done p e below s _ _ _ (s₁.setTop (mkF m 1 #[.val (.ref a1), .val (.int p2), .unset, .unset, .unset] [(.int (0 : Int32))]))
  refine Done.step (fun t k => XS.istoreN X0.here hx rfl (hb hby d5_1) rfl (l' := #[.val (.ref a1), .val (.int p2), .val (.int (0 : Int32)), .unset, .unset]) rfl k) ?_
  show Done p e below s _ _ _ (s₁.setTop (mkF m 2 #[.val (.ref a1), .val (.int p2), .val (.int (0 : Int32)), .unset, .unset] []))
  refine Done.step (fun t k => XS.aloadN X0.here hx rfl (hb hby d5_2) rfl rfl k) ?_
  show Done p e below s _ _ _ (s₁.setTop (mkF m 3 #[.val (.ref a1), .val (.int p2), .val (.int (0 : Int32)), .unset, .unset] [(.ref a1)]))
  refine Done.step (lenA X0 hx hZ e0 A1 (n := xs.length.toInt32) (by rw [List.length_map]) (g := (mkF m 3 #[.val (.ref a1), .val (.int p2), .val (.int (0 : Int32)), .unset, .unset] [(.ref a1)])) rfl rfl (hb hby d5_3)) ?_
  show Done p e below s _ _ _ (s₁.setTop (mkF m 4 #[.val (.ref a1), .val (.int p2), .val (.int (0 : Int32)), .unset, .unset] [(.int xs.length.toInt32)]))
  refine Done.step (fun t k => XS.istoreN X0.here hx rfl (hb hby d5_4) rfl (l' := #[.val (.ref a1), .val (.int p2), .val (.int (0 : Int32)), .val (.int xs.length.toInt32), .unset]) rfl k) ?_
  show Done p e below s _ _ _ (s₁.setTop (mkF m 5 #[.val (.ref a1), .val (.int p2), .val (.int (0 : Int32)), .val (.int xs.length.toInt32), .unset] []))
  have hl3 : xs.length.toInt32.toInt = xs.length := len_toInt (by omega)
  exact lp5 a1 p2 xs hx hZ hw hby hml hown hlk hret hnm A1 hasc hlen (xs.length + 1)  s₁ _ (0 : Int32) xs.length.toInt32 .unset X0 N0 Z0 e0 (Or.inl rfl) (by rw [hl3]; show ((xs.length : Int) - 0).toNat < _; omega) (by decide) (by rw [hl3]; show (0 : Int) ≤ _; omega) (by omega) (fun j x _ hq => absurd hq (by show ¬ (j : Int) < (0 : Int); omega)) (fun j x hj hq => absurd (List.getElem?_eq_some_iff.mp hj).1 (by omega))
theorem own_n (p x : Int32) (h : ((p &&& (7 : Int32)) % (5 : Int32)) = x) : x = (0 : Int32) ∨ x = (1 : Int32) ∨ x = (2 : Int32) ∨ x = (3 : Int32) ∨ x = (4 : Int32) := by
  have m := c_mask p (7 : Int32) 3 (by decide) (by decide)
  have r := (c_irem (p &&& (7 : Int32)) (5 : Int32) 5 (by decide)).1 (by omega)
  rw [h] at r
  simp only [← Int32.toInt_inj, show (0 : Int32).toInt = 0 from rfl, show (1 : Int32).toInt = 1 from rfl, show (2 : Int32).toInt = 2 from rfl, show (3 : Int32).toInt = 3 from rfl, show (4 : Int32).toInt = 4 from rfl]
  omega
theorem own_mn (a b x : Int32) (h : (F1 a b) = x) : x.toInt ≤ a.toInt ∧ x.toInt ≤ b.toInt ∧ (x.toInt = a.toInt ∨ x.toInt = b.toInt) := by
  subst h; unfold F1; simp only [Int32.lt_iff_toInt_lt]; split <;> omega
theorem own_mx (a b x : Int32) (h : (F2 a b) = x) : a.toInt ≤ x.toInt ∧ b.toInt ≤ x.toInt ∧ (x.toInt = a.toInt ∨ x.toInt = b.toInt) := by
  subst h; unfold F2; simp only [Int32.lt_iff_toInt_lt]; split <;> omega
theorem own_srt {a b c d x0 x1 x2 x3 s0 y2 y1 s3 s1 s2 : Int32} (h7 : (F1 a b) = x0) (h8 : (F2 a b) = x1) (h9 : (F1 c d) = x2) (h10 : (F2 c d) = x3) (h11 : (F1 x0 x2) = s0) (h12 : (F2 x0 x2) = y2) (h13 : (F1 x1 x3) = y1) (h14 : (F2 x1 x3) = s3) (h15 : (F1 y1 y2) = s1) (h16 : (F2 y1 y2) = s2) : s0.toInt ≤ s1.toInt ∧ s1.toInt ≤ s2.toInt ∧ s2.toInt ≤ s3.toInt := by
  have a1 := own_mn _ _ _ h7
  have a2 := own_mx _ _ _ h8
  have a3 := own_mn _ _ _ h9
  have a4 := own_mx _ _ _ h10
  have a5 := own_mn _ _ _ h11
  have a6 := own_mx _ _ _ h12
  have a7 := own_mn _ _ _ h13
  have a8 := own_mx _ _ _ h14
  have a9 := own_mn _ _ _ h15
  have b1 := own_mx _ _ _ h16
  omega
theorem own_mk0 (s0 s1 s2 s3 : Int32) : (MK (0 : Int32) s0 s1 s2 s3) = [] := rfl
theorem own_asc0 (s0 s1 s2 s3 : Int32) (h : s0.toInt ≤ s1.toInt ∧ s1.toInt ≤ s2.toInt ∧ s2.toInt ≤ s3.toInt) : Asc (MK (0 : Int32) s0 s1 s2 s3) := by
  obtain ⟨h1, h2, h3⟩ := h
  intro i j x y hi hj hij
  exact absurd hi (by rw [own_mk0]; simp)
theorem own_cnt0 (s0 s1 s2 s3 t k : Int32) (h : Up (MK (0 : Int32) s0 s1 s2 s3) t k) : k = ((((F4 (0 : Int32) s0 t) + (F4 (0 : Int32) s1 t)) + (F4 (0 : Int32) s2 t)) + (F4 (0 : Int32) s3 t)) := by
  rw [own_mk0] at h
  obtain ⟨a, b, lo, hi⟩ := h
  have b' : k.toInt ≤ 0 := b
  clear lo hi b
  apply Int32.toInt_inj.mp
  unfold F4
  simp only [Int32.lt_iff_toInt_lt, show ((0 : Int32) = (0 : Int32)) = True from eq_self _, show ((1 : Int32) = (0 : Int32)) = False from by decide, if_true, if_false]
  simp; omega
theorem own_mk1 (s0 s1 s2 s3 : Int32) : (MK (1 : Int32) s0 s1 s2 s3) = [s0] := rfl
theorem own_asc1 (s0 s1 s2 s3 : Int32) (h : s0.toInt ≤ s1.toInt ∧ s1.toInt ≤ s2.toInt ∧ s2.toInt ≤ s3.toInt) : Asc (MK (1 : Int32) s0 s1 s2 s3) := by
  obtain ⟨h1, h2, h3⟩ := h
  intro i j x y hi hj hij
  rw [own_mk1] at hi hj
  match i, j, hi, hj, hij with
  | 0, 0, hi, hj, _ => cases hi; cases hj; omega
  | (a + 1), _, hi, _, _ => exact absurd hi (by simp)
  | _, (a + 1), _, hj, _ => exact absurd hj (by simp)
theorem own_cnt1 (s0 s1 s2 s3 t k : Int32) (h : Up (MK (1 : Int32) s0 s1 s2 s3) t k) : k = ((((F4 (1 : Int32) s0 t) + (F4 (0 : Int32) s1 t)) + (F4 (0 : Int32) s2 t)) + (F4 (0 : Int32) s3 t)) := by
  rw [own_mk1] at h
  obtain ⟨a, b, lo, hi⟩ := h
  have b' : k.toInt ≤ 1 := b
  have l0 := lo 0 s0 rfl
  have u0 := hi 0 s0 rfl
  clear lo hi b
  apply Int32.toInt_inj.mp
  unfold F4
  simp only [Int32.lt_iff_toInt_lt, show ((0 : Int32) = (0 : Int32)) = True from eq_self _, show ((1 : Int32) = (0 : Int32)) = False from by decide, if_true, if_false]
  repeat' split
  all_goals simp
  all_goals omega
theorem own_mk2 (s0 s1 s2 s3 : Int32) : (MK (2 : Int32) s0 s1 s2 s3) = [s0, s1] := rfl
theorem own_asc2 (s0 s1 s2 s3 : Int32) (h : s0.toInt ≤ s1.toInt ∧ s1.toInt ≤ s2.toInt ∧ s2.toInt ≤ s3.toInt) : Asc (MK (2 : Int32) s0 s1 s2 s3) := by
  obtain ⟨h1, h2, h3⟩ := h
  intro i j x y hi hj hij
  rw [own_mk2] at hi hj
  match i, j, hi, hj, hij with
  | 0, 0, hi, hj, _ => cases hi; cases hj; omega
  | 0, 1, hi, hj, _ => cases hi; cases hj; omega
  | 1, 1, hi, hj, _ => cases hi; cases hj; omega
  | 1, 0, _, _, h => exact absurd h (by decide)
  | (a + 2), _, hi, _, _ => exact absurd hi (by simp)
  | _, (a + 2), _, hj, _ => exact absurd hj (by simp)
theorem own_cnt2 (s0 s1 s2 s3 t k : Int32) (h : Up (MK (2 : Int32) s0 s1 s2 s3) t k) : k = ((((F4 (1 : Int32) s0 t) + (F4 (1 : Int32) s1 t)) + (F4 (0 : Int32) s2 t)) + (F4 (0 : Int32) s3 t)) := by
  rw [own_mk2] at h
  obtain ⟨a, b, lo, hi⟩ := h
  have b' : k.toInt ≤ 2 := b
  have l0 := lo 0 s0 rfl
  have u0 := hi 0 s0 rfl
  have l1 := lo 1 s1 rfl
  have u1 := hi 1 s1 rfl
  clear lo hi b
  apply Int32.toInt_inj.mp
  unfold F4
  simp only [Int32.lt_iff_toInt_lt, show ((0 : Int32) = (0 : Int32)) = True from eq_self _, show ((1 : Int32) = (0 : Int32)) = False from by decide, if_true, if_false]
  repeat' split
  all_goals simp
  all_goals omega
theorem own_mk3 (s0 s1 s2 s3 : Int32) : (MK (3 : Int32) s0 s1 s2 s3) = [s0, s1, s2] := rfl
theorem own_asc3 (s0 s1 s2 s3 : Int32) (h : s0.toInt ≤ s1.toInt ∧ s1.toInt ≤ s2.toInt ∧ s2.toInt ≤ s3.toInt) : Asc (MK (3 : Int32) s0 s1 s2 s3) := by
  obtain ⟨h1, h2, h3⟩ := h
  intro i j x y hi hj hij
  rw [own_mk3] at hi hj
  match i, j, hi, hj, hij with
  | 0, 0, hi, hj, _ => cases hi; cases hj; omega
  | 0, 1, hi, hj, _ => cases hi; cases hj; omega
  | 0, 2, hi, hj, _ => cases hi; cases hj; omega
  | 1, 1, hi, hj, _ => cases hi; cases hj; omega
  | 1, 2, hi, hj, _ => cases hi; cases hj; omega
  | 1, 0, _, _, h => exact absurd h (by decide)
  | 2, 2, hi, hj, _ => cases hi; cases hj; omega
  | 2, 0, _, _, h => exact absurd h (by decide)
  | 2, 1, _, _, h => exact absurd h (by decide)
  | (a + 3), _, hi, _, _ => exact absurd hi (by simp)
  | _, (a + 3), _, hj, _ => exact absurd hj (by simp)
theorem own_cnt3 (s0 s1 s2 s3 t k : Int32) (h : Up (MK (3 : Int32) s0 s1 s2 s3) t k) : k = ((((F4 (1 : Int32) s0 t) + (F4 (1 : Int32) s1 t)) + (F4 (1 : Int32) s2 t)) + (F4 (0 : Int32) s3 t)) := by
  rw [own_mk3] at h
  obtain ⟨a, b, lo, hi⟩ := h
  have b' : k.toInt ≤ 3 := b
  have l0 := lo 0 s0 rfl
  have u0 := hi 0 s0 rfl
  have l1 := lo 1 s1 rfl
  have u1 := hi 1 s1 rfl
  have l2 := lo 2 s2 rfl
  have u2 := hi 2 s2 rfl
  clear lo hi b
  apply Int32.toInt_inj.mp
  unfold F4
  simp only [Int32.lt_iff_toInt_lt, show ((0 : Int32) = (0 : Int32)) = True from eq_self _, show ((1 : Int32) = (0 : Int32)) = False from by decide, if_true, if_false]
  repeat' split
  all_goals simp
  all_goals omega
theorem own_mk4 (s0 s1 s2 s3 : Int32) : (MK (4 : Int32) s0 s1 s2 s3) = [s0, s1, s2, s3] := rfl
theorem own_asc4 (s0 s1 s2 s3 : Int32) (h : s0.toInt ≤ s1.toInt ∧ s1.toInt ≤ s2.toInt ∧ s2.toInt ≤ s3.toInt) : Asc (MK (4 : Int32) s0 s1 s2 s3) := by
  obtain ⟨h1, h2, h3⟩ := h
  intro i j x y hi hj hij
  rw [own_mk4] at hi hj
  match i, j, hi, hj, hij with
  | 0, 0, hi, hj, _ => cases hi; cases hj; omega
  | 0, 1, hi, hj, _ => cases hi; cases hj; omega
  | 0, 2, hi, hj, _ => cases hi; cases hj; omega
  | 0, 3, hi, hj, _ => cases hi; cases hj; omega
  | 1, 1, hi, hj, _ => cases hi; cases hj; omega
  | 1, 2, hi, hj, _ => cases hi; cases hj; omega
  | 1, 3, hi, hj, _ => cases hi; cases hj; omega
  | 1, 0, _, _, h => exact absurd h (by decide)
  | 2, 2, hi, hj, _ => cases hi; cases hj; omega
  | 2, 3, hi, hj, _ => cases hi; cases hj; omega
  | 2, 0, _, _, h => exact absurd h (by decide)
  | 2, 1, _, _, h => exact absurd h (by decide)
  | 3, 3, hi, hj, _ => cases hi; cases hj; omega
  | 3, 0, _, _, h => exact absurd h (by decide)
  | 3, 1, _, _, h => exact absurd h (by decide)
  | 3, 2, _, _, h => exact absurd h (by decide)
  | (a + 4), _, hi, _, _ => exact absurd hi (by simp)
  | _, (a + 4), _, hj, _ => exact absurd hj (by simp)
theorem own_cnt4 (s0 s1 s2 s3 t k : Int32) (h : Up (MK (4 : Int32) s0 s1 s2 s3) t k) : k = ((((F4 (1 : Int32) s0 t) + (F4 (1 : Int32) s1 t)) + (F4 (1 : Int32) s2 t)) + (F4 (1 : Int32) s3 t)) := by
  rw [own_mk4] at h
  obtain ⟨a, b, lo, hi⟩ := h
  have b' : k.toInt ≤ 4 := b
  have l0 := lo 0 s0 rfl
  have u0 := hi 0 s0 rfl
  have l1 := lo 1 s1 rfl
  have u1 := hi 1 s1 rfl
  have l2 := lo 2 s2 rfl
  have u2 := hi 2 s2 rfl
  have l3 := lo 3 s3 rfl
  have u3 := hi 3 s3 rfl
  clear lo hi b
  apply Int32.toInt_inj.mp
  unfold F4
  simp only [Int32.lt_iff_toInt_lt, show ((0 : Int32) = (0 : Int32)) = True from eq_self _, show ((1 : Int32) = (0 : Int32)) = False from by decide, if_true, if_false]
  repeat' split
  all_goals simp
  all_goals omega
theorem pn_0 : plainName "com/example/ruled_ledger/ruledledger/rules/SuperclassForestStartAbovePinLaw" = true := by first | (simp [plainName, overriddenIn]; done) | decide +kernel
theorem ef_0 (m : MethodId) (p1 : Int32) (p2 : Int32) (p3 : Int32) (p4 : Int32) (p5 : Int32) (p6 : Int32) : entryFrame m #[(.int p1), (.int p2), (.int p3), (.int p4), (.int p5), (.int p6)] maxLocals = mkF m 0 #[.val (.int p1), .val (.int p2), .val (.int p3), .val (.int p4), .val (.int p5), .val (.int p6), .unset, .unset, .unset, .unset, .unset, .unset, .unset, .unset, .unset, .unset, .unset, .unset, .unset] [] := by first | (simp [entryFrame, mkF, argsToLocals, Value.category, maxLocals]; done) | rfl
def Qrm0 (Z : State) (p1 : Int32) (p2 : Int32) (p3 : Int32) (p4 : Int32) (p5 : Int32) (p6 : Int32) (h0 : Heap) (n0 : Nat) : Option Value → Heap → List Loc → Prop := fun v h L => v = some (.int 1) ∧ Fr n0 L
set_option maxRecDepth 65536 in
set_option maxHeartbeats 40000000 in
theorem rm0 (l : Launch) (Z : State) (a0 : Array Value) (hw : ∀ d ∈ tables_1, d.before a0 Z = true) (ws : List Jvm.Cond) (p1 : Int32) (p2 : Int32) (p3 : Int32) (p4 : Int32) (p5 : Int32) (p6 : Int32) (h0 : Heap) (n0 : Nat) (Z0 : n0 ≤ h0.size) :
    MetFree l x (head1 (Jvm.Cond.code x code maxLocals ret :: ws) room_1) (fun a U => a = #[(.int p1), (.int p2), (.int p3), (.int p4), (.int p5), (.int p6)] ∧ Z.Warmed39 U.vm ∧ U.heap = h0) (fun _ _ _ _ _ => True) (fun _ U o U' => ∃ v L, o = .returned v ∧ Qrm0 Z p1 p2 p3 p4 p5 p6 h0 n0 v U'.heap L ∧ FrameEnd U o U' L room_1.cells room_1.slots) := by
  refine MetFree.of_bodySF (plainFor_of_name pn_0) hisR ?_
  intro p e s m args below meth c s₁ Bd hml0 hP hK
  obtain ⟨rfl, hZ, hh⟩ := hP
  have hx := Bd.exec
  have hby := Bd.bytes
  have hml : c.maxLocals = 19 := hml0
  have hown : s.vm.findClass "com/example/ruled_ledger/ruledledger/rules/SuperclassForestStartAbovePinLaw" = some m.cls := findClass_of_methodNamed Bd.named
  have hnm := (name_of_methodNamed Bd.named Bd.method).1
  have hlk : meth.locks = false := BodyLoose.notSynchronized Bd
  have hret := Bd.returns
  have X0 : Stand p l e room_1 s m #[(.int p1), (.int p2), (.int p3), (.int p4), (.int p5), (.int p6)] below meth c s₁ [] 0 0 := Stand.of_body Bd
  have e0 : s₁.heap = h0 := by rw [← hh, Bd.state]; rfl
  have N0 := Fr.nil n0
  show Done p e below s (Qrm0 Z p1 p2 p3 p4 p5 p6 h0 n0) room_1.cells room_1.slots (s₁.setTop (entryFrame m #[(.int p1), (.int p2), (.int p3), (.int p4), (.int p5), (.int p6)] maxLocals))
  refine Done.step (fun t k => castTop (ef_0 m p1 p2 p3 p4 p5 p6) k) ?_
  show Done p e below s _ _ _ (s₁.setTop (mkF m 0 #[.val (.int p1), .val (.int p2), .val (.int p3), .val (.int p4), .val (.int p5), .val (.int p6), .unset, .unset, .unset, .unset, .unset, .unset, .unset, .unset, .unset, .unset, .unset, .unset, .unset] []))
  refine Done.step (fun t k => XS.iload X0.here hx rfl (hb hby at_0) rfl k) ?_
  show Done p e below s _ _ _ (s₁.setTop (mkF m 2 #[.val (.int p1), .val (.int p2), .val (.int p3), .val (.int p4), .val (.int p5), .val (.int p6), .unset, .unset, .unset, .unset, .unset, .unset, .unset, .unset, .unset, .unset, .unset, .unset, .unset] [(.int p6)]))
  refine Done.step (fun t k => XS.bipush X0.here hx rfl (hb hby at_2) k) ?_
  show Done p e below s _ _ _ (s₁.setTop (mkF m 4 #[.val (.int p1), .val (.int p2), .val (.int p3), .val (.int p4), .val (.int p5), .val (.int p6), .unset, .unset, .unset, .unset, .unset, .unset, .unset, .unset, .unset, .unset, .unset, .unset, .unset] [(.int (7 : Int32)), (.int p6)]))
  refine Done.step (fun t k => XS.iand X0.here hx rfl (hb hby at_4) rfl k) ?_
  show Done p e below s _ _ _ (s₁.setTop (mkF m 5 #[.val (.int p1), .val (.int p2), .val (.int p3), .val (.int p4), .val (.int p5), .val (.int p6), .unset, .unset, .unset, .unset, .unset, .unset, .unset, .unset, .unset, .unset, .unset, .unset, .unset] [(.int (p6 &&& (7 : Int32)))]))
  refine Done.step (fun t k => XS.iconst X0.here hx rfl (hb hby at_5) k) ?_
  show Done p e below s _ _ _ (s₁.setTop (mkF m 6 #[.val (.int p1), .val (.int p2), .val (.int p3), .val (.int p4), .val (.int p5), .val (.int p6), .unset, .unset, .unset, .unset, .unset, .unset, .unset, .unset, .unset, .unset, .unset, .unset, .unset] [(.int (5 : Int32)), (.int (p6 &&& (7 : Int32)))]))
  refine Done.step (fun t k => iremM X0 hx rfl (hb hby at_6) rfl (by decide) k) ?_
  show Done p e below s _ _ _ (s₁.setTop (mkF m 7 #[.val (.int p1), .val (.int p2), .val (.int p3), .val (.int p4), .val (.int p5), .val (.int p6), .unset, .unset, .unset, .unset, .unset, .unset, .unset, .unset, .unset, .unset, .unset, .unset, .unset] [(.int ((p6 &&& (7 : Int32)) % (5 : Int32)))]))
  generalize dx1 : ((p6 &&& (7 : Int32)) % (5 : Int32)) = x1
  show Done p e below s _ _ _ (s₁.setTop (mkF m 7 #[.val (.int p1), .val (.int p2), .val (.int p3), .val (.int p4), .val (.int p5), .val (.int p6), .unset, .unset, .unset, .unset, .unset, .unset, .unset, .unset, .unset, .unset, .unset, .unset, .unset] [(.int x1)]))
  refine Done.step (fun t k => XS.istore X0.here hx rfl (hb hby at_7) rfl (l' := #[.val (.int p1), .val (.int p2), .val (.int p3), .val (.int p4), .val (.int p5), .val (.int p6), .val (.int x1), .unset, .unset, .unset, .unset, .unset, .unset, .unset, .unset, .unset, .unset, .unset, .unset]) rfl k) ?_
  show Done p e below s _ _ _ (s₁.setTop (mkF m 9 #[.val (.int p1), .val (.int p2), .val (.int p3), .val (.int p4), .val (.int p5), .val (.int p6), .val (.int x1), .unset, .unset, .unset, .unset, .unset, .unset, .unset, .unset, .unset, .unset, .unset, .unset] []))
  refine Done.step (fun t k => XS.iloadN X0.here hx rfl (hb hby at_9) rfl k) ?_
  show Done p e below s _ _ _ (s₁.setTop (mkF m 10 #[.val (.int p1), .val (.int p2), .val (.int p3), .val (.int p4), .val (.int p5), .val (.int p6), .val (.int x1), .unset, .unset, .unset, .unset, .unset, .unset, .unset, .unset, .unset, .unset, .unset, .unset] [(.int p1)]))
  refine Done.step (fun t k => XS.iloadN X0.here hx rfl (hb hby at_10) rfl k) ?_
  show Done p e below s _ _ _ (s₁.setTop (mkF m 11 #[.val (.int p1), .val (.int p2), .val (.int p3), .val (.int p4), .val (.int p5), .val (.int p6), .val (.int x1), .unset, .unset, .unset, .unset, .unset, .unset, .unset, .unset, .unset, .unset, .unset, .unset] [(.int p2), (.int p1)]))
  obtain ⟨v2, _, ⟨T2, L2, k2, n2⟩, -, X2, ⟨Lc2, hQ2, l2, y2, z2⟩, st2⟩ := Jvm.LawKit.callS X0 hx (y := (⟨"java/lang/Math", "min", "(II)I"⟩ : MethodName)) hown (mvT hZ (hw _ (List.mem_of_getElem? (i := 0) rfl))) (mvT hZ (hw _ (List.mem_of_getElem? (i := 1) rfl))) (mvT hZ (hw _ (List.mem_of_getElem? (i := 2) rfl))) (mvT hZ (hw _ (List.mem_of_getElem? (i := 3) rfl))) (by decide) (backOf (W := 0) (rm1 l Z a0 hw [] p1 p2 h0 n0 Z0 ) hZ (hw _ (List.mem_of_getElem? (i := 3) rfl)) (hw _ (List.mem_of_getElem? (i := 2) rfl)) (by decide) (by decide)) (g := (mkF m 11 #[.val (.int p1), .val (.int p2), .val (.int p3), .val (.int p4), .val (.int p5), .val (.int p6), .val (.int x1), .unset, .unset, .unset, .unset, .unset, .unset, .unset, .unset, .unset, .unset, .unset, .unset] [(.int p2), (.int p1)])) rfl (by rw [hml]; rfl) (argsL := [(.int p1), (.int p2)]) (rest := []) (lenOf pd_0 rfl) rfl (by show 2 * 0 + _ ≤ _; exact Nat.le_of_eq rfl) (hb hby at_11) (fun _ _ => ⟨rfl, e0, (by decide : 0 + 0 ≤ _), (by decide : 0 + 0 ≤ _)⟩)
  dsimp only [Pt.U, Pt.locs, Pt.cells, Pt.slots] at X2 l2 y2 z2 st2 hQ2
  subst l2 y2 z2
  refine Done.step st2 ?_
  obtain ⟨rfl, N2q, e2⟩ := hQ2
  have N2 := Fr.app N0 N2q
  show Done p e below s _ _ _ (T2.setTop (mkF m 14 #[.val (.int p1), .val (.int p2), .val (.int p3), .val (.int p4), .val (.int p5), .val (.int p6), .val (.int x1), .unset, .unset, .unset, .unset, .unset, .unset, .unset, .unset, .unset, .unset, .unset, .unset] [(.int (F1 p1 p2))]))
  generalize dx3 : (F1 p1 p2) = x3
  show Done p e below s _ _ _ (T2.setTop (mkF m 14 #[.val (.int p1), .val (.int p2), .val (.int p3), .val (.int p4), .val (.int p5), .val (.int p6), .val (.int x1), .unset, .unset, .unset, .unset, .unset, .unset, .unset, .unset, .unset, .unset, .unset, .unset] [(.int x3)]))
  refine Done.step (fun t k => XS.istore X2.here hx rfl (hb hby at_14) rfl (l' := #[.val (.int p1), .val (.int p2), .val (.int p3), .val (.int p4), .val (.int p5), .val (.int p6), .val (.int x1), .val (.int x3), .unset, .unset, .unset, .unset, .unset, .unset, .unset, .unset, .unset, .unset, .unset]) rfl k) ?_
  show Done p e below s _ _ _ (T2.setTop (mkF m 16 #[.val (.int p1), .val (.int p2), .val (.int p3), .val (.int p4), .val (.int p5), .val (.int p6), .val (.int x1), .val (.int x3), .unset, .unset, .unset, .unset, .unset, .unset, .unset, .unset, .unset, .unset, .unset] []))
  refine Done.step (fun t k => XS.iloadN X2.here hx rfl (hb hby at_16) rfl k) ?_
  show Done p e below s _ _ _ (T2.setTop (mkF m 17 #[.val (.int p1), .val (.int p2), .val (.int p3), .val (.int p4), .val (.int p5), .val (.int p6), .val (.int x1), .val (.int x3), .unset, .unset, .unset, .unset, .unset, .unset, .unset, .unset, .unset, .unset, .unset] [(.int p1)]))
  refine Done.step (fun t k => XS.iloadN X2.here hx rfl (hb hby at_17) rfl k) ?_
  show Done p e below s _ _ _ (T2.setTop (mkF m 18 #[.val (.int p1), .val (.int p2), .val (.int p3), .val (.int p4), .val (.int p5), .val (.int p6), .val (.int x1), .val (.int x3), .unset, .unset, .unset, .unset, .unset, .unset, .unset, .unset, .unset, .unset, .unset] [(.int p2), (.int p1)]))
  obtain ⟨v4, _, ⟨T4, L4, k4, n4⟩, -, X4, ⟨Lc4, hQ4, l4, y4, z4⟩, st4⟩ := Jvm.LawKit.callS X2 hx (y := (⟨"java/lang/Math", "max", "(II)I"⟩ : MethodName)) hown (mvT hZ (hw _ (List.mem_of_getElem? (i := 4) rfl))) (mvT hZ (hw _ (List.mem_of_getElem? (i := 5) rfl))) (mvT hZ (hw _ (List.mem_of_getElem? (i := 2) rfl))) (mvT hZ (hw _ (List.mem_of_getElem? (i := 6) rfl))) (by decide) (backOf (W := 0) (rm2 l Z a0 hw [] p1 p2 h0 n0 Z0 ) hZ (hw _ (List.mem_of_getElem? (i := 6) rfl)) (hw _ (List.mem_of_getElem? (i := 2) rfl)) (by decide) (by decide)) (g := (mkF m 18 #[.val (.int p1), .val (.int p2), .val (.int p3), .val (.int p4), .val (.int p5), .val (.int p6), .val (.int x1), .val (.int x3), .unset, .unset, .unset, .unset, .unset, .unset, .unset, .unset, .unset, .unset, .unset] [(.int p2), (.int p1)])) rfl (by rw [hml]; rfl) (argsL := [(.int p1), (.int p2)]) (rest := []) (lenOf pd_0 rfl) rfl (by show 2 * 0 + _ ≤ _; exact Nat.le_of_eq rfl) (hb hby at_18) (fun _ _ => ⟨rfl, e2, (by decide : 0 + 0 ≤ _), (by decide : 0 + 0 ≤ _)⟩)
  dsimp only [Pt.U, Pt.locs, Pt.cells, Pt.slots] at X4 l4 y4 z4 st4 hQ4
  subst l4 y4 z4
  refine Done.step st4 ?_
  obtain ⟨rfl, N4q, e4⟩ := hQ4
  have N4 := Fr.app N2 N4q
  show Done p e below s _ _ _ (T4.setTop (mkF m 21 #[.val (.int p1), .val (.int p2), .val (.int p3), .val (.int p4), .val (.int p5), .val (.int p6), .val (.int x1), .val (.int x3), .unset, .unset, .unset, .unset, .unset, .unset, .unset, .unset, .unset, .unset, .unset] [(.int (F2 p1 p2))]))
  generalize dx5 : (F2 p1 p2) = x5
  show Done p e below s _ _ _ (T4.setTop (mkF m 21 #[.val (.int p1), .val (.int p2), .val (.int p3), .val (.int p4), .val (.int p5), .val (.int p6), .val (.int x1), .val (.int x3), .unset, .unset, .unset, .unset, .unset, .unset, .unset, .unset, .unset, .unset, .unset] [(.int x5)]))
  refine Done.step (fun t k => XS.istore X4.here hx rfl (hb hby at_21) rfl (l' := #[.val (.int p1), .val (.int p2), .val (.int p3), .val (.int p4), .val (.int p5), .val (.int p6), .val (.int x1), .val (.int x3), .val (.int x5), .unset, .unset, .unset, .unset, .unset, .unset, .unset, .unset, .unset, .unset]) rfl k) ?_
  show Done p e below s _ _ _ (T4.setTop (mkF m 23 #[.val (.int p1), .val (.int p2), .val (.int p3), .val (.int p4), .val (.int p5), .val (.int p6), .val (.int x1), .val (.int x3), .val (.int x5), .unset, .unset, .unset, .unset, .unset, .unset, .unset, .unset, .unset, .unset] []))
  refine Done.step (fun t k => XS.iloadN X4.here hx rfl (hb hby at_23) rfl k) ?_
  show Done p e below s _ _ _ (T4.setTop (mkF m 24 #[.val (.int p1), .val (.int p2), .val (.int p3), .val (.int p4), .val (.int p5), .val (.int p6), .val (.int x1), .val (.int x3), .val (.int x5), .unset, .unset, .unset, .unset, .unset, .unset, .unset, .unset, .unset, .unset] [(.int p3)]))
  refine Done.step (fun t k => XS.iloadN X4.here hx rfl (hb hby at_24) rfl k) ?_
  show Done p e below s _ _ _ (T4.setTop (mkF m 25 #[.val (.int p1), .val (.int p2), .val (.int p3), .val (.int p4), .val (.int p5), .val (.int p6), .val (.int x1), .val (.int x3), .val (.int x5), .unset, .unset, .unset, .unset, .unset, .unset, .unset, .unset, .unset, .unset] [(.int p4), (.int p3)]))
  obtain ⟨v6, _, ⟨T6, L6, k6, n6⟩, -, X6, ⟨Lc6, hQ6, l6, y6, z6⟩, st6⟩ := Jvm.LawKit.callS X4 hx (y := (⟨"java/lang/Math", "min", "(II)I"⟩ : MethodName)) hown (mvT hZ (hw _ (List.mem_of_getElem? (i := 0) rfl))) (mvT hZ (hw _ (List.mem_of_getElem? (i := 1) rfl))) (mvT hZ (hw _ (List.mem_of_getElem? (i := 2) rfl))) (mvT hZ (hw _ (List.mem_of_getElem? (i := 3) rfl))) (by decide) (backOf (W := 0) (rm1 l Z a0 hw [] p3 p4 h0 n0 Z0 ) hZ (hw _ (List.mem_of_getElem? (i := 3) rfl)) (hw _ (List.mem_of_getElem? (i := 2) rfl)) (by decide) (by decide)) (g := (mkF m 25 #[.val (.int p1), .val (.int p2), .val (.int p3), .val (.int p4), .val (.int p5), .val (.int p6), .val (.int x1), .val (.int x3), .val (.int x5), .unset, .unset, .unset, .unset, .unset, .unset, .unset, .unset, .unset, .unset] [(.int p4), (.int p3)])) rfl (by rw [hml]; rfl) (argsL := [(.int p3), (.int p4)]) (rest := []) (lenOf pd_0 rfl) rfl (by show 2 * 0 + _ ≤ _; exact Nat.le_of_eq rfl) (hb hby at_25) (fun _ _ => ⟨rfl, e4, (by decide : 0 + 0 ≤ _), (by decide : 0 + 0 ≤ _)⟩)
  dsimp only [Pt.U, Pt.locs, Pt.cells, Pt.slots] at X6 l6 y6 z6 st6 hQ6
  subst l6 y6 z6
  refine Done.step st6 ?_
  obtain ⟨rfl, N6q, e6⟩ := hQ6
  have N6 := Fr.app N4 N6q
  show Done p e below s _ _ _ (T6.setTop (mkF m 28 #[.val (.int p1), .val (.int p2), .val (.int p3), .val (.int p4), .val (.int p5), .val (.int p6), .val (.int x1), .val (.int x3), .val (.int x5), .unset, .unset, .unset, .unset, .unset, .unset, .unset, .unset, .unset, .unset] [(.int (F1 p3 p4))]))
  generalize dx7 : (F1 p3 p4) = x7
  show Done p e below s _ _ _ (T6.setTop (mkF m 28 #[.val (.int p1), .val (.int p2), .val (.int p3), .val (.int p4), .val (.int p5), .val (.int p6), .val (.int x1), .val (.int x3), .val (.int x5), .unset, .unset, .unset, .unset, .unset, .unset, .unset, .unset, .unset, .unset] [(.int x7)]))
  refine Done.step (fun t k => XS.istore X6.here hx rfl (hb hby at_28) rfl (l' := #[.val (.int p1), .val (.int p2), .val (.int p3), .val (.int p4), .val (.int p5), .val (.int p6), .val (.int x1), .val (.int x3), .val (.int x5), .val (.int x7), .unset, .unset, .unset, .unset, .unset, .unset, .unset, .unset, .unset]) rfl k) ?_
  show Done p e below s _ _ _ (T6.setTop (mkF m 30 #[.val (.int p1), .val (.int p2), .val (.int p3), .val (.int p4), .val (.int p5), .val (.int p6), .val (.int x1), .val (.int x3), .val (.int x5), .val (.int x7), .unset, .unset, .unset, .unset, .unset, .unset, .unset, .unset, .unset] []))
  refine Done.step (fun t k => XS.iloadN X6.here hx rfl (hb hby at_30) rfl k) ?_
  show Done p e below s _ _ _ (T6.setTop (mkF m 31 #[.val (.int p1), .val (.int p2), .val (.int p3), .val (.int p4), .val (.int p5), .val (.int p6), .val (.int x1), .val (.int x3), .val (.int x5), .val (.int x7), .unset, .unset, .unset, .unset, .unset, .unset, .unset, .unset, .unset] [(.int p3)]))
  refine Done.step (fun t k => XS.iloadN X6.here hx rfl (hb hby at_31) rfl k) ?_
  show Done p e below s _ _ _ (T6.setTop (mkF m 32 #[.val (.int p1), .val (.int p2), .val (.int p3), .val (.int p4), .val (.int p5), .val (.int p6), .val (.int x1), .val (.int x3), .val (.int x5), .val (.int x7), .unset, .unset, .unset, .unset, .unset, .unset, .unset, .unset, .unset] [(.int p4), (.int p3)]))
  obtain ⟨v8, _, ⟨T8, L8, k8, n8⟩, -, X8, ⟨Lc8, hQ8, l8, y8, z8⟩, st8⟩ := Jvm.LawKit.callS X6 hx (y := (⟨"java/lang/Math", "max", "(II)I"⟩ : MethodName)) hown (mvT hZ (hw _ (List.mem_of_getElem? (i := 4) rfl))) (mvT hZ (hw _ (List.mem_of_getElem? (i := 5) rfl))) (mvT hZ (hw _ (List.mem_of_getElem? (i := 2) rfl))) (mvT hZ (hw _ (List.mem_of_getElem? (i := 6) rfl))) (by decide) (backOf (W := 0) (rm2 l Z a0 hw [] p3 p4 h0 n0 Z0 ) hZ (hw _ (List.mem_of_getElem? (i := 6) rfl)) (hw _ (List.mem_of_getElem? (i := 2) rfl)) (by decide) (by decide)) (g := (mkF m 32 #[.val (.int p1), .val (.int p2), .val (.int p3), .val (.int p4), .val (.int p5), .val (.int p6), .val (.int x1), .val (.int x3), .val (.int x5), .val (.int x7), .unset, .unset, .unset, .unset, .unset, .unset, .unset, .unset, .unset] [(.int p4), (.int p3)])) rfl (by rw [hml]; rfl) (argsL := [(.int p3), (.int p4)]) (rest := []) (lenOf pd_0 rfl) rfl (by show 2 * 0 + _ ≤ _; exact Nat.le_of_eq rfl) (hb hby at_32) (fun _ _ => ⟨rfl, e6, (by decide : 0 + 0 ≤ _), (by decide : 0 + 0 ≤ _)⟩)
  dsimp only [Pt.U, Pt.locs, Pt.cells, Pt.slots] at X8 l8 y8 z8 st8 hQ8
  subst l8 y8 z8
  refine Done.step st8 ?_
  obtain ⟨rfl, N8q, e8⟩ := hQ8
  have N8 := Fr.app N6 N8q
  show Done p e below s _ _ _ (T8.setTop (mkF m 35 #[.val (.int p1), .val (.int p2), .val (.int p3), .val (.int p4), .val (.int p5), .val (.int p6), .val (.int x1), .val (.int x3), .val (.int x5), .val (.int x7), .unset, .unset, .unset, .unset, .unset, .unset, .unset, .unset, .unset] [(.int (F2 p3 p4))]))
  generalize dx9 : (F2 p3 p4) = x9
  show Done p e below s _ _ _ (T8.setTop (mkF m 35 #[.val (.int p1), .val (.int p2), .val (.int p3), .val (.int p4), .val (.int p5), .val (.int p6), .val (.int x1), .val (.int x3), .val (.int x5), .val (.int x7), .unset, .unset, .unset, .unset, .unset, .unset, .unset, .unset, .unset] [(.int x9)]))
  refine Done.step (fun t k => XS.istore X8.here hx rfl (hb hby at_35) rfl (l' := #[.val (.int p1), .val (.int p2), .val (.int p3), .val (.int p4), .val (.int p5), .val (.int p6), .val (.int x1), .val (.int x3), .val (.int x5), .val (.int x7), .val (.int x9), .unset, .unset, .unset, .unset, .unset, .unset, .unset, .unset]) rfl k) ?_
  show Done p e below s _ _ _ (T8.setTop (mkF m 37 #[.val (.int p1), .val (.int p2), .val (.int p3), .val (.int p4), .val (.int p5), .val (.int p6), .val (.int x1), .val (.int x3), .val (.int x5), .val (.int x7), .val (.int x9), .unset, .unset, .unset, .unset, .unset, .unset, .unset, .unset] []))
  refine Done.step (fun t k => XS.iload X8.here hx rfl (hb hby at_37) rfl k) ?_
  show Done p e below s _ _ _ (T8.setTop (mkF m 39 #[.val (.int p1), .val (.int p2), .val (.int p3), .val (.int p4), .val (.int p5), .val (.int p6), .val (.int x1), .val (.int x3), .val (.int x5), .val (.int x7), .val (.int x9), .unset, .unset, .unset, .unset, .unset, .unset, .unset, .unset] [(.int x3)]))
  refine Done.step (fun t k => XS.iload X8.here hx rfl (hb hby at_39) rfl k) ?_
  show Done p e below s _ _ _ (T8.setTop (mkF m 41 #[.val (.int p1), .val (.int p2), .val (.int p3), .val (.int p4), .val (.int p5), .val (.int p6), .val (.int x1), .val (.int x3), .val (.int x5), .val (.int x7), .val (.int x9), .unset, .unset, .unset, .unset, .unset, .unset, .unset, .unset] [(.int x7), (.int x3)]))
  obtain ⟨v10, _, ⟨T10, L10, k10, n10⟩, -, X10, ⟨Lc10, hQ10, l10, y10, z10⟩, st10⟩ := Jvm.LawKit.callS X8 hx (y := (⟨"java/lang/Math", "min", "(II)I"⟩ : MethodName)) hown (mvT hZ (hw _ (List.mem_of_getElem? (i := 0) rfl))) (mvT hZ (hw _ (List.mem_of_getElem? (i := 1) rfl))) (mvT hZ (hw _ (List.mem_of_getElem? (i := 2) rfl))) (mvT hZ (hw _ (List.mem_of_getElem? (i := 3) rfl))) (by decide) (backOf (W := 0) (rm1 l Z a0 hw [] x3 x7 h0 n0 Z0 ) hZ (hw _ (List.mem_of_getElem? (i := 3) rfl)) (hw _ (List.mem_of_getElem? (i := 2) rfl)) (by decide) (by decide)) (g := (mkF m 41 #[.val (.int p1), .val (.int p2), .val (.int p3), .val (.int p4), .val (.int p5), .val (.int p6), .val (.int x1), .val (.int x3), .val (.int x5), .val (.int x7), .val (.int x9), .unset, .unset, .unset, .unset, .unset, .unset, .unset, .unset] [(.int x7), (.int x3)])) rfl (by rw [hml]; rfl) (argsL := [(.int x3), (.int x7)]) (rest := []) (lenOf pd_0 rfl) rfl (by show 2 * 0 + _ ≤ _; exact Nat.le_of_eq rfl) (hb hby at_41) (fun _ _ => ⟨rfl, e8, (by decide : 0 + 0 ≤ _), (by decide : 0 + 0 ≤ _)⟩)
  dsimp only [Pt.U, Pt.locs, Pt.cells, Pt.slots] at X10 l10 y10 z10 st10 hQ10
  subst l10 y10 z10
  refine Done.step st10 ?_
  obtain ⟨rfl, N10q, e10⟩ := hQ10
  have N10 := Fr.app N8 N10q
  show Done p e below s _ _ _ (T10.setTop (mkF m 44 #[.val (.int p1), .val (.int p2), .val (.int p3), .val (.int p4), .val (.int p5), .val (.int p6), .val (.int x1), .val (.int x3), .val (.int x5), .val (.int x7), .val (.int x9), .unset, .unset, .unset, .unset, .unset, .unset, .unset, .unset] [(.int (F1 x3 x7))]))
  generalize dx11 : (F1 x3 x7) = x11
  show Done p e below s _ _ _ (T10.setTop (mkF m 44 #[.val (.int p1), .val (.int p2), .val (.int p3), .val (.int p4), .val (.int p5), .val (.int p6), .val (.int x1), .val (.int x3), .val (.int x5), .val (.int x7), .val (.int x9), .unset, .unset, .unset, .unset, .unset, .unset, .unset, .unset] [(.int x11)]))
  refine Done.step (fun t k => XS.istore X10.here hx rfl (hb hby at_44) rfl (l' := #[.val (.int p1), .val (.int p2), .val (.int p3), .val (.int p4), .val (.int p5), .val (.int p6), .val (.int x1), .val (.int x3), .val (.int x5), .val (.int x7), .val (.int x9), .val (.int x11), .unset, .unset, .unset, .unset, .unset, .unset, .unset]) rfl k) ?_
  show Done p e below s _ _ _ (T10.setTop (mkF m 46 #[.val (.int p1), .val (.int p2), .val (.int p3), .val (.int p4), .val (.int p5), .val (.int p6), .val (.int x1), .val (.int x3), .val (.int x5), .val (.int x7), .val (.int x9), .val (.int x11), .unset, .unset, .unset, .unset, .unset, .unset, .unset] []))
  refine Done.step (fun t k => XS.iload X10.here hx rfl (hb hby at_46) rfl k) ?_
  show Done p e below s _ _ _ (T10.setTop (mkF m 48 #[.val (.int p1), .val (.int p2), .val (.int p3), .val (.int p4), .val (.int p5), .val (.int p6), .val (.int x1), .val (.int x3), .val (.int x5), .val (.int x7), .val (.int x9), .val (.int x11), .unset, .unset, .unset, .unset, .unset, .unset, .unset] [(.int x3)]))
  refine Done.step (fun t k => XS.iload X10.here hx rfl (hb hby at_48) rfl k) ?_
  show Done p e below s _ _ _ (T10.setTop (mkF m 50 #[.val (.int p1), .val (.int p2), .val (.int p3), .val (.int p4), .val (.int p5), .val (.int p6), .val (.int x1), .val (.int x3), .val (.int x5), .val (.int x7), .val (.int x9), .val (.int x11), .unset, .unset, .unset, .unset, .unset, .unset, .unset] [(.int x7), (.int x3)]))
  obtain ⟨v12, _, ⟨T12, L12, k12, n12⟩, -, X12, ⟨Lc12, hQ12, l12, y12, z12⟩, st12⟩ := Jvm.LawKit.callS X10 hx (y := (⟨"java/lang/Math", "max", "(II)I"⟩ : MethodName)) hown (mvT hZ (hw _ (List.mem_of_getElem? (i := 4) rfl))) (mvT hZ (hw _ (List.mem_of_getElem? (i := 5) rfl))) (mvT hZ (hw _ (List.mem_of_getElem? (i := 2) rfl))) (mvT hZ (hw _ (List.mem_of_getElem? (i := 6) rfl))) (by decide) (backOf (W := 0) (rm2 l Z a0 hw [] x3 x7 h0 n0 Z0 ) hZ (hw _ (List.mem_of_getElem? (i := 6) rfl)) (hw _ (List.mem_of_getElem? (i := 2) rfl)) (by decide) (by decide)) (g := (mkF m 50 #[.val (.int p1), .val (.int p2), .val (.int p3), .val (.int p4), .val (.int p5), .val (.int p6), .val (.int x1), .val (.int x3), .val (.int x5), .val (.int x7), .val (.int x9), .val (.int x11), .unset, .unset, .unset, .unset, .unset, .unset, .unset] [(.int x7), (.int x3)])) rfl (by rw [hml]; rfl) (argsL := [(.int x3), (.int x7)]) (rest := []) (lenOf pd_0 rfl) rfl (by show 2 * 0 + _ ≤ _; exact Nat.le_of_eq rfl) (hb hby at_50) (fun _ _ => ⟨rfl, e10, (by decide : 0 + 0 ≤ _), (by decide : 0 + 0 ≤ _)⟩)
  dsimp only [Pt.U, Pt.locs, Pt.cells, Pt.slots] at X12 l12 y12 z12 st12 hQ12
  subst l12 y12 z12
  refine Done.step st12 ?_
  obtain ⟨rfl, N12q, e12⟩ := hQ12
  have N12 := Fr.app N10 N12q
  show Done p e below s _ _ _ (T12.setTop (mkF m 53 #[.val (.int p1), .val (.int p2), .val (.int p3), .val (.int p4), .val (.int p5), .val (.int p6), .val (.int x1), .val (.int x3), .val (.int x5), .val (.int x7), .val (.int x9), .val (.int x11), .unset, .unset, .unset, .unset, .unset, .unset, .unset] [(.int (F2 x3 x7))]))
  generalize dx13 : (F2 x3 x7) = x13
  show Done p e below s _ _ _ (T12.setTop (mkF m 53 #[.val (.int p1), .val (.int p2), .val (.int p3), .val (.int p4), .val (.int p5), .val (.int p6), .val (.int x1), .val (.int x3), .val (.int x5), .val (.int x7), .val (.int x9), .val (.int x11), .unset, .unset, .unset, .unset, .unset, .unset, .unset] [(.int x13)]))
  refine Done.step (fun t k => XS.istore X12.here hx rfl (hb hby at_53) rfl (l' := #[.val (.int p1), .val (.int p2), .val (.int p3), .val (.int p4), .val (.int p5), .val (.int p6), .val (.int x1), .val (.int x3), .val (.int x5), .val (.int x7), .val (.int x9), .val (.int x11), .val (.int x13), .unset, .unset, .unset, .unset, .unset, .unset]) rfl k) ?_
  show Done p e below s _ _ _ (T12.setTop (mkF m 55 #[.val (.int p1), .val (.int p2), .val (.int p3), .val (.int p4), .val (.int p5), .val (.int p6), .val (.int x1), .val (.int x3), .val (.int x5), .val (.int x7), .val (.int x9), .val (.int x11), .val (.int x13), .unset, .unset, .unset, .unset, .unset, .unset] []))
  refine Done.step (fun t k => XS.iload X12.here hx rfl (hb hby at_55) rfl k) ?_
  show Done p e below s _ _ _ (T12.setTop (mkF m 57 #[.val (.int p1), .val (.int p2), .val (.int p3), .val (.int p4), .val (.int p5), .val (.int p6), .val (.int x1), .val (.int x3), .val (.int x5), .val (.int x7), .val (.int x9), .val (.int x11), .val (.int x13), .unset, .unset, .unset, .unset, .unset, .unset] [(.int x5)]))
  refine Done.step (fun t k => XS.iload X12.here hx rfl (hb hby at_57) rfl k) ?_
  show Done p e below s _ _ _ (T12.setTop (mkF m 59 #[.val (.int p1), .val (.int p2), .val (.int p3), .val (.int p4), .val (.int p5), .val (.int p6), .val (.int x1), .val (.int x3), .val (.int x5), .val (.int x7), .val (.int x9), .val (.int x11), .val (.int x13), .unset, .unset, .unset, .unset, .unset, .unset] [(.int x9), (.int x5)]))
  obtain ⟨v14, _, ⟨T14, L14, k14, n14⟩, -, X14, ⟨Lc14, hQ14, l14, y14, z14⟩, st14⟩ := Jvm.LawKit.callS X12 hx (y := (⟨"java/lang/Math", "min", "(II)I"⟩ : MethodName)) hown (mvT hZ (hw _ (List.mem_of_getElem? (i := 0) rfl))) (mvT hZ (hw _ (List.mem_of_getElem? (i := 1) rfl))) (mvT hZ (hw _ (List.mem_of_getElem? (i := 2) rfl))) (mvT hZ (hw _ (List.mem_of_getElem? (i := 3) rfl))) (by decide) (backOf (W := 0) (rm1 l Z a0 hw [] x5 x9 h0 n0 Z0 ) hZ (hw _ (List.mem_of_getElem? (i := 3) rfl)) (hw _ (List.mem_of_getElem? (i := 2) rfl)) (by decide) (by decide)) (g := (mkF m 59 #[.val (.int p1), .val (.int p2), .val (.int p3), .val (.int p4), .val (.int p5), .val (.int p6), .val (.int x1), .val (.int x3), .val (.int x5), .val (.int x7), .val (.int x9), .val (.int x11), .val (.int x13), .unset, .unset, .unset, .unset, .unset, .unset] [(.int x9), (.int x5)])) rfl (by rw [hml]; rfl) (argsL := [(.int x5), (.int x9)]) (rest := []) (lenOf pd_0 rfl) rfl (by show 2 * 0 + _ ≤ _; exact Nat.le_of_eq rfl) (hb hby at_59) (fun _ _ => ⟨rfl, e12, (by decide : 0 + 0 ≤ _), (by decide : 0 + 0 ≤ _)⟩)
  dsimp only [Pt.U, Pt.locs, Pt.cells, Pt.slots] at X14 l14 y14 z14 st14 hQ14
  subst l14 y14 z14
  refine Done.step st14 ?_
  obtain ⟨rfl, N14q, e14⟩ := hQ14
  have N14 := Fr.app N12 N14q
  show Done p e below s _ _ _ (T14.setTop (mkF m 62 #[.val (.int p1), .val (.int p2), .val (.int p3), .val (.int p4), .val (.int p5), .val (.int p6), .val (.int x1), .val (.int x3), .val (.int x5), .val (.int x7), .val (.int x9), .val (.int x11), .val (.int x13), .unset, .unset, .unset, .unset, .unset, .unset] [(.int (F1 x5 x9))]))
  generalize dx15 : (F1 x5 x9) = x15
  show Done p e below s _ _ _ (T14.setTop (mkF m 62 #[.val (.int p1), .val (.int p2), .val (.int p3), .val (.int p4), .val (.int p5), .val (.int p6), .val (.int x1), .val (.int x3), .val (.int x5), .val (.int x7), .val (.int x9), .val (.int x11), .val (.int x13), .unset, .unset, .unset, .unset, .unset, .unset] [(.int x15)]))
  refine Done.step (fun t k => XS.istore X14.here hx rfl (hb hby at_62) rfl (l' := #[.val (.int p1), .val (.int p2), .val (.int p3), .val (.int p4), .val (.int p5), .val (.int p6), .val (.int x1), .val (.int x3), .val (.int x5), .val (.int x7), .val (.int x9), .val (.int x11), .val (.int x13), .val (.int x15), .unset, .unset, .unset, .unset, .unset]) rfl k) ?_
  show Done p e below s _ _ _ (T14.setTop (mkF m 64 #[.val (.int p1), .val (.int p2), .val (.int p3), .val (.int p4), .val (.int p5), .val (.int p6), .val (.int x1), .val (.int x3), .val (.int x5), .val (.int x7), .val (.int x9), .val (.int x11), .val (.int x13), .val (.int x15), .unset, .unset, .unset, .unset, .unset] []))
  refine Done.step (fun t k => XS.iload X14.here hx rfl (hb hby at_64) rfl k) ?_
  show Done p e below s _ _ _ (T14.setTop (mkF m 66 #[.val (.int p1), .val (.int p2), .val (.int p3), .val (.int p4), .val (.int p5), .val (.int p6), .val (.int x1), .val (.int x3), .val (.int x5), .val (.int x7), .val (.int x9), .val (.int x11), .val (.int x13), .val (.int x15), .unset, .unset, .unset, .unset, .unset] [(.int x5)]))
  refine Done.step (fun t k => XS.iload X14.here hx rfl (hb hby at_66) rfl k) ?_
  show Done p e below s _ _ _ (T14.setTop (mkF m 68 #[.val (.int p1), .val (.int p2), .val (.int p3), .val (.int p4), .val (.int p5), .val (.int p6), .val (.int x1), .val (.int x3), .val (.int x5), .val (.int x7), .val (.int x9), .val (.int x11), .val (.int x13), .val (.int x15), .unset, .unset, .unset, .unset, .unset] [(.int x9), (.int x5)]))
  obtain ⟨v16, _, ⟨T16, L16, k16, n16⟩, -, X16, ⟨Lc16, hQ16, l16, y16, z16⟩, st16⟩ := Jvm.LawKit.callS X14 hx (y := (⟨"java/lang/Math", "max", "(II)I"⟩ : MethodName)) hown (mvT hZ (hw _ (List.mem_of_getElem? (i := 4) rfl))) (mvT hZ (hw _ (List.mem_of_getElem? (i := 5) rfl))) (mvT hZ (hw _ (List.mem_of_getElem? (i := 2) rfl))) (mvT hZ (hw _ (List.mem_of_getElem? (i := 6) rfl))) (by decide) (backOf (W := 0) (rm2 l Z a0 hw [] x5 x9 h0 n0 Z0 ) hZ (hw _ (List.mem_of_getElem? (i := 6) rfl)) (hw _ (List.mem_of_getElem? (i := 2) rfl)) (by decide) (by decide)) (g := (mkF m 68 #[.val (.int p1), .val (.int p2), .val (.int p3), .val (.int p4), .val (.int p5), .val (.int p6), .val (.int x1), .val (.int x3), .val (.int x5), .val (.int x7), .val (.int x9), .val (.int x11), .val (.int x13), .val (.int x15), .unset, .unset, .unset, .unset, .unset] [(.int x9), (.int x5)])) rfl (by rw [hml]; rfl) (argsL := [(.int x5), (.int x9)]) (rest := []) (lenOf pd_0 rfl) rfl (by show 2 * 0 + _ ≤ _; exact Nat.le_of_eq rfl) (hb hby at_68) (fun _ _ => ⟨rfl, e14, (by decide : 0 + 0 ≤ _), (by decide : 0 + 0 ≤ _)⟩)
  dsimp only [Pt.U, Pt.locs, Pt.cells, Pt.slots] at X16 l16 y16 z16 st16 hQ16
  subst l16 y16 z16
  refine Done.step st16 ?_
  obtain ⟨rfl, N16q, e16⟩ := hQ16
  have N16 := Fr.app N14 N16q
  show Done p e below s _ _ _ (T16.setTop (mkF m 71 #[.val (.int p1), .val (.int p2), .val (.int p3), .val (.int p4), .val (.int p5), .val (.int p6), .val (.int x1), .val (.int x3), .val (.int x5), .val (.int x7), .val (.int x9), .val (.int x11), .val (.int x13), .val (.int x15), .unset, .unset, .unset, .unset, .unset] [(.int (F2 x5 x9))]))
  generalize dx17 : (F2 x5 x9) = x17
  show Done p e below s _ _ _ (T16.setTop (mkF m 71 #[.val (.int p1), .val (.int p2), .val (.int p3), .val (.int p4), .val (.int p5), .val (.int p6), .val (.int x1), .val (.int x3), .val (.int x5), .val (.int x7), .val (.int x9), .val (.int x11), .val (.int x13), .val (.int x15), .unset, .unset, .unset, .unset, .unset] [(.int x17)]))
  refine Done.step (fun t k => XS.istore X16.here hx rfl (hb hby at_71) rfl (l' := #[.val (.int p1), .val (.int p2), .val (.int p3), .val (.int p4), .val (.int p5), .val (.int p6), .val (.int x1), .val (.int x3), .val (.int x5), .val (.int x7), .val (.int x9), .val (.int x11), .val (.int x13), .val (.int x15), .val (.int x17), .unset, .unset, .unset, .unset]) rfl k) ?_
  show Done p e below s _ _ _ (T16.setTop (mkF m 73 #[.val (.int p1), .val (.int p2), .val (.int p3), .val (.int p4), .val (.int p5), .val (.int p6), .val (.int x1), .val (.int x3), .val (.int x5), .val (.int x7), .val (.int x9), .val (.int x11), .val (.int x13), .val (.int x15), .val (.int x17), .unset, .unset, .unset, .unset] []))
  refine Done.step (fun t k => XS.iload X16.here hx rfl (hb hby at_73) rfl k) ?_
  show Done p e below s _ _ _ (T16.setTop (mkF m 75 #[.val (.int p1), .val (.int p2), .val (.int p3), .val (.int p4), .val (.int p5), .val (.int p6), .val (.int x1), .val (.int x3), .val (.int x5), .val (.int x7), .val (.int x9), .val (.int x11), .val (.int x13), .val (.int x15), .val (.int x17), .unset, .unset, .unset, .unset] [(.int x15)]))
  refine Done.step (fun t k => XS.iload X16.here hx rfl (hb hby at_75) rfl k) ?_
  show Done p e below s _ _ _ (T16.setTop (mkF m 77 #[.val (.int p1), .val (.int p2), .val (.int p3), .val (.int p4), .val (.int p5), .val (.int p6), .val (.int x1), .val (.int x3), .val (.int x5), .val (.int x7), .val (.int x9), .val (.int x11), .val (.int x13), .val (.int x15), .val (.int x17), .unset, .unset, .unset, .unset] [(.int x13), (.int x15)]))
  obtain ⟨v18, _, ⟨T18, L18, k18, n18⟩, -, X18, ⟨Lc18, hQ18, l18, y18, z18⟩, st18⟩ := Jvm.LawKit.callS X16 hx (y := (⟨"java/lang/Math", "min", "(II)I"⟩ : MethodName)) hown (mvT hZ (hw _ (List.mem_of_getElem? (i := 0) rfl))) (mvT hZ (hw _ (List.mem_of_getElem? (i := 1) rfl))) (mvT hZ (hw _ (List.mem_of_getElem? (i := 2) rfl))) (mvT hZ (hw _ (List.mem_of_getElem? (i := 3) rfl))) (by decide) (backOf (W := 0) (rm1 l Z a0 hw [] x15 x13 h0 n0 Z0 ) hZ (hw _ (List.mem_of_getElem? (i := 3) rfl)) (hw _ (List.mem_of_getElem? (i := 2) rfl)) (by decide) (by decide)) (g := (mkF m 77 #[.val (.int p1), .val (.int p2), .val (.int p3), .val (.int p4), .val (.int p5), .val (.int p6), .val (.int x1), .val (.int x3), .val (.int x5), .val (.int x7), .val (.int x9), .val (.int x11), .val (.int x13), .val (.int x15), .val (.int x17), .unset, .unset, .unset, .unset] [(.int x13), (.int x15)])) rfl (by rw [hml]; rfl) (argsL := [(.int x15), (.int x13)]) (rest := []) (lenOf pd_0 rfl) rfl (by show 2 * 0 + _ ≤ _; exact Nat.le_of_eq rfl) (hb hby at_77) (fun _ _ => ⟨rfl, e16, (by decide : 0 + 0 ≤ _), (by decide : 0 + 0 ≤ _)⟩)
  dsimp only [Pt.U, Pt.locs, Pt.cells, Pt.slots] at X18 l18 y18 z18 st18 hQ18
  subst l18 y18 z18
  refine Done.step st18 ?_
  obtain ⟨rfl, N18q, e18⟩ := hQ18
  have N18 := Fr.app N16 N18q
  show Done p e below s _ _ _ (T18.setTop (mkF m 80 #[.val (.int p1), .val (.int p2), .val (.int p3), .val (.int p4), .val (.int p5), .val (.int p6), .val (.int x1), .val (.int x3), .val (.int x5), .val (.int x7), .val (.int x9), .val (.int x11), .val (.int x13), .val (.int x15), .val (.int x17), .unset, .unset, .unset, .unset] [(.int (F1 x15 x13))]))
  generalize dx19 : (F1 x15 x13) = x19
  show Done p e below s _ _ _ (T18.setTop (mkF m 80 #[.val (.int p1), .val (.int p2), .val (.int p3), .val (.int p4), .val (.int p5), .val (.int p6), .val (.int x1), .val (.int x3), .val (.int x5), .val (.int x7), .val (.int x9), .val (.int x11), .val (.int x13), .val (.int x15), .val (.int x17), .unset, .unset, .unset, .unset] [(.int x19)]))
  refine Done.step (fun t k => XS.istore X18.here hx rfl (hb hby at_80) rfl (l' := #[.val (.int p1), .val (.int p2), .val (.int p3), .val (.int p4), .val (.int p5), .val (.int p6), .val (.int x1), .val (.int x3), .val (.int x5), .val (.int x7), .val (.int x9), .val (.int x11), .val (.int x13), .val (.int x15), .val (.int x17), .val (.int x19), .unset, .unset, .unset]) rfl k) ?_
  show Done p e below s _ _ _ (T18.setTop (mkF m 82 #[.val (.int p1), .val (.int p2), .val (.int p3), .val (.int p4), .val (.int p5), .val (.int p6), .val (.int x1), .val (.int x3), .val (.int x5), .val (.int x7), .val (.int x9), .val (.int x11), .val (.int x13), .val (.int x15), .val (.int x17), .val (.int x19), .unset, .unset, .unset] []))
  refine Done.step (fun t k => XS.iload X18.here hx rfl (hb hby at_82) rfl k) ?_
  show Done p e below s _ _ _ (T18.setTop (mkF m 84 #[.val (.int p1), .val (.int p2), .val (.int p3), .val (.int p4), .val (.int p5), .val (.int p6), .val (.int x1), .val (.int x3), .val (.int x5), .val (.int x7), .val (.int x9), .val (.int x11), .val (.int x13), .val (.int x15), .val (.int x17), .val (.int x19), .unset, .unset, .unset] [(.int x15)]))
  refine Done.step (fun t k => XS.iload X18.here hx rfl (hb hby at_84) rfl k) ?_
  show Done p e below s _ _ _ (T18.setTop (mkF m 86 #[.val (.int p1), .val (.int p2), .val (.int p3), .val (.int p4), .val (.int p5), .val (.int p6), .val (.int x1), .val (.int x3), .val (.int x5), .val (.int x7), .val (.int x9), .val (.int x11), .val (.int x13), .val (.int x15), .val (.int x17), .val (.int x19), .unset, .unset, .unset] [(.int x13), (.int x15)]))
  obtain ⟨v20, _, ⟨T20, L20, k20, n20⟩, -, X20, ⟨Lc20, hQ20, l20, y20, z20⟩, st20⟩ := Jvm.LawKit.callS X18 hx (y := (⟨"java/lang/Math", "max", "(II)I"⟩ : MethodName)) hown (mvT hZ (hw _ (List.mem_of_getElem? (i := 4) rfl))) (mvT hZ (hw _ (List.mem_of_getElem? (i := 5) rfl))) (mvT hZ (hw _ (List.mem_of_getElem? (i := 2) rfl))) (mvT hZ (hw _ (List.mem_of_getElem? (i := 6) rfl))) (by decide) (backOf (W := 0) (rm2 l Z a0 hw [] x15 x13 h0 n0 Z0 ) hZ (hw _ (List.mem_of_getElem? (i := 6) rfl)) (hw _ (List.mem_of_getElem? (i := 2) rfl)) (by decide) (by decide)) (g := (mkF m 86 #[.val (.int p1), .val (.int p2), .val (.int p3), .val (.int p4), .val (.int p5), .val (.int p6), .val (.int x1), .val (.int x3), .val (.int x5), .val (.int x7), .val (.int x9), .val (.int x11), .val (.int x13), .val (.int x15), .val (.int x17), .val (.int x19), .unset, .unset, .unset] [(.int x13), (.int x15)])) rfl (by rw [hml]; rfl) (argsL := [(.int x15), (.int x13)]) (rest := []) (lenOf pd_0 rfl) rfl (by show 2 * 0 + _ ≤ _; exact Nat.le_of_eq rfl) (hb hby at_86) (fun _ _ => ⟨rfl, e18, (by decide : 0 + 0 ≤ _), (by decide : 0 + 0 ≤ _)⟩)
  dsimp only [Pt.U, Pt.locs, Pt.cells, Pt.slots] at X20 l20 y20 z20 st20 hQ20
  subst l20 y20 z20
  refine Done.step st20 ?_
  obtain ⟨rfl, N20q, e20⟩ := hQ20
  have N20 := Fr.app N18 N20q
  show Done p e below s _ _ _ (T20.setTop (mkF m 89 #[.val (.int p1), .val (.int p2), .val (.int p3), .val (.int p4), .val (.int p5), .val (.int p6), .val (.int x1), .val (.int x3), .val (.int x5), .val (.int x7), .val (.int x9), .val (.int x11), .val (.int x13), .val (.int x15), .val (.int x17), .val (.int x19), .unset, .unset, .unset] [(.int (F2 x15 x13))]))
  generalize dx21 : (F2 x15 x13) = x21
  show Done p e below s _ _ _ (T20.setTop (mkF m 89 #[.val (.int p1), .val (.int p2), .val (.int p3), .val (.int p4), .val (.int p5), .val (.int p6), .val (.int x1), .val (.int x3), .val (.int x5), .val (.int x7), .val (.int x9), .val (.int x11), .val (.int x13), .val (.int x15), .val (.int x17), .val (.int x19), .unset, .unset, .unset] [(.int x21)]))
  refine Done.step (fun t k => XS.istore X20.here hx rfl (hb hby at_89) rfl (l' := #[.val (.int p1), .val (.int p2), .val (.int p3), .val (.int p4), .val (.int p5), .val (.int p6), .val (.int x1), .val (.int x3), .val (.int x5), .val (.int x7), .val (.int x9), .val (.int x11), .val (.int x13), .val (.int x15), .val (.int x17), .val (.int x19), .val (.int x21), .unset, .unset]) rfl k) ?_
  show Done p e below s _ _ _ (T20.setTop (mkF m 91 #[.val (.int p1), .val (.int p2), .val (.int p3), .val (.int p4), .val (.int p5), .val (.int p6), .val (.int x1), .val (.int x3), .val (.int x5), .val (.int x7), .val (.int x9), .val (.int x11), .val (.int x13), .val (.int x15), .val (.int x17), .val (.int x19), .val (.int x21), .unset, .unset] []))
  refine Done.step (fun t k => XS.iload X20.here hx rfl (hb hby at_91) rfl k) ?_
  show Done p e below s _ _ _ (T20.setTop (mkF m 93 #[.val (.int p1), .val (.int p2), .val (.int p3), .val (.int p4), .val (.int p5), .val (.int p6), .val (.int x1), .val (.int x3), .val (.int x5), .val (.int x7), .val (.int x9), .val (.int x11), .val (.int x13), .val (.int x15), .val (.int x17), .val (.int x19), .val (.int x21), .unset, .unset] [(.int x1)]))
  refine Done.step (fun t k => XS.iload X20.here hx rfl (hb hby at_93) rfl k) ?_
  show Done p e below s _ _ _ (T20.setTop (mkF m 95 #[.val (.int p1), .val (.int p2), .val (.int p3), .val (.int p4), .val (.int p5), .val (.int p6), .val (.int x1), .val (.int x3), .val (.int x5), .val (.int x7), .val (.int x9), .val (.int x11), .val (.int x13), .val (.int x15), .val (.int x17), .val (.int x19), .val (.int x21), .unset, .unset] [(.int x11), (.int x1)]))
  refine Done.step (fun t k => XS.iload X20.here hx rfl (hb hby at_95) rfl k) ?_
  show Done p e below s _ _ _ (T20.setTop (mkF m 97 #[.val (.int p1), .val (.int p2), .val (.int p3), .val (.int p4), .val (.int p5), .val (.int p6), .val (.int x1), .val (.int x3), .val (.int x5), .val (.int x7), .val (.int x9), .val (.int x11), .val (.int x13), .val (.int x15), .val (.int x17), .val (.int x19), .val (.int x21), .unset, .unset] [(.int x19), (.int x11), (.int x1)]))
  refine Done.step (fun t k => XS.iload X20.here hx rfl (hb hby at_97) rfl k) ?_
  show Done p e below s _ _ _ (T20.setTop (mkF m 99 #[.val (.int p1), .val (.int p2), .val (.int p3), .val (.int p4), .val (.int p5), .val (.int p6), .val (.int x1), .val (.int x3), .val (.int x5), .val (.int x7), .val (.int x9), .val (.int x11), .val (.int x13), .val (.int x15), .val (.int x17), .val (.int x19), .val (.int x21), .unset, .unset] [(.int x21), (.int x19), (.int x11), (.int x1)]))
  refine Done.step (fun t k => XS.iload X20.here hx rfl (hb hby at_99) rfl k) ?_
  show Done p e below s _ _ _ (T20.setTop (mkF m 101 #[.val (.int p1), .val (.int p2), .val (.int p3), .val (.int p4), .val (.int p5), .val (.int p6), .val (.int x1), .val (.int x3), .val (.int x5), .val (.int x7), .val (.int x9), .val (.int x11), .val (.int x13), .val (.int x15), .val (.int x17), .val (.int x19), .val (.int x21), .unset, .unset] [(.int x17), (.int x21), (.int x19), (.int x11), (.int x1)]))
  obtain ⟨v22, _, ⟨T22, L22, k22, n22⟩, -, X22, ⟨Lc22, hQ22, l22, y22, z22⟩, st22⟩ := Jvm.LawKit.callS X20 hx (y := (⟨"com/example/ruled_ledger/ruledledger/rules/SuperclassForestStartAbovePinLaw", "make", "(IIIII)[I"⟩ : MethodName)) hown (mvT hZ (hw _ (List.mem_of_getElem? (i := 7) rfl))) (mvT hZ (hw _ (List.mem_of_getElem? (i := 8) rfl))) (mvT hZ (hw _ (List.mem_of_getElem? (i := 9) rfl))) (mvT hZ (hw _ (List.mem_of_getElem? (i := 10) rfl))) (by decide) (backOf (W := 0) (rm3 l Z a0 hw [] x1 x11 x19 x21 x17  h0 n0 Z0 ) hZ (hw _ (List.mem_of_getElem? (i := 10) rfl)) (hw _ (List.mem_of_getElem? (i := 9) rfl)) (by decide) (by decide)) (g := (mkF m 101 #[.val (.int p1), .val (.int p2), .val (.int p3), .val (.int p4), .val (.int p5), .val (.int p6), .val (.int x1), .val (.int x3), .val (.int x5), .val (.int x7), .val (.int x9), .val (.int x11), .val (.int x13), .val (.int x15), .val (.int x17), .val (.int x19), .val (.int x21), .unset, .unset] [(.int x17), (.int x21), (.int x19), (.int x11), (.int x1)])) rfl (by rw [hml]; rfl) (argsL := [(.int x1), (.int x11), (.int x19), (.int x21), (.int x17)]) (rest := []) (lenOf pd_1 rfl) rfl (by show 2 * 0 + _ ≤ _; exact Nat.le_of_eq rfl) (hb hby at_101) (fun _ _ => ⟨rfl, e20, (by decide : 0 + 1 ≤ _), (by decide : 0 + 4 ≤ _)⟩)
  dsimp only [Pt.U, Pt.locs, Pt.cells, Pt.slots] at X22 l22 y22 z22 st22 hQ22
  subst l22 y22 z22
  refine Done.step st22 ?_
  obtain ⟨r22, rfl, N22q, K22q, x22⟩ := hQ22
  have N22 := Fr.app N20 N22q
  have Zk22 : n0 ≤ T22.heap.size := Nat.le_trans Z0 K22q.1
  show Done p e below s _ _ _ (T22.setTop (mkF m 104 #[.val (.int p1), .val (.int p2), .val (.int p3), .val (.int p4), .val (.int p5), .val (.int p6), .val (.int x1), .val (.int x3), .val (.int x5), .val (.int x7), .val (.int x9), .val (.int x11), .val (.int x13), .val (.int x15), .val (.int x17), .val (.int x19), .val (.int x21), .unset, .unset] [(.ref r22)]))
  refine Done.step (fun t k => XS.astore X22.here hx rfl (hb hby at_104) rfl rfl (l' := #[.val (.int p1), .val (.int p2), .val (.int p3), .val (.int p4), .val (.int p5), .val (.int p6), .val (.int x1), .val (.int x3), .val (.int x5), .val (.int x7), .val (.int x9), .val (.int x11), .val (.int x13), .val (.int x15), .val (.int x17), .val (.int x19), .val (.int x21), .val (.ref r22), .unset]) rfl k) ?_
  show Done p e below s _ _ _ (T22.setTop (mkF m 106 #[.val (.int p1), .val (.int p2), .val (.int p3), .val (.int p4), .val (.int p5), .val (.int p6), .val (.int x1), .val (.int x3), .val (.int x5), .val (.int x7), .val (.int x9), .val (.int x11), .val (.int x13), .val (.int x15), .val (.int x17), .val (.int x19), .val (.int x21), .val (.ref r22), .unset] []))
  have hsrt := own_srt dx3 dx5 dx7 dx9 dx11 dx13 dx15 dx17 dx19 dx21
  obtain rfl | rfl | rfl | rfl | rfl := own_n p6 x1 dx1
  · show Done p e below s _ _ _ (T22.setTop (mkF m 106 #[.val (.int p1), .val (.int p2), .val (.int p3), .val (.int p4), .val (.int p5), .val (.int p6), .val (.int (0 : Int32)), .val (.int x3), .val (.int x5), .val (.int x7), .val (.int x9), .val (.int x11), .val (.int x13), .val (.int x15), .val (.int x17), .val (.int x19), .val (.int x21), .val (.ref r22), .unset] []))
    refine Done.step (fun t k => XS.iload X22.here hx rfl (hb hby at_106) rfl k) ?_
    show Done p e below s _ _ _ (T22.setTop (mkF m 108 #[.val (.int p1), .val (.int p2), .val (.int p3), .val (.int p4), .val (.int p5), .val (.int p6), .val (.int (0 : Int32)), .val (.int x3), .val (.int x5), .val (.int x7), .val (.int x9), .val (.int x11), .val (.int x13), .val (.int x15), .val (.int x17), .val (.int x19), .val (.int x21), .val (.ref r22), .unset] [(.int (0 : Int32))]))
    refine Done.step (fun t k => XS.ifYes X22.here hx rfl (pc0 := 108) (pc' := 115) rfl (hb hby at_108) rfl ((if0 _ _).trans (flt (by decide)).2.2.2) (by decide) (by decide) k) ?_
    show Done p e below s _ _ _ (T22.setTop (mkF m 115 #[.val (.int p1), .val (.int p2), .val (.int p3), .val (.int p4), .val (.int p5), .val (.int p6), .val (.int (0 : Int32)), .val (.int x3), .val (.int x5), .val (.int x7), .val (.int x9), .val (.int x11), .val (.int x13), .val (.int x15), .val (.int x17), .val (.int x19), .val (.int x21), .val (.ref r22), .unset] []))
    refine Done.step (fun t k => XS.iconst X22.here hx rfl (hb hby at_115) k) ?_
    show Done p e below s _ _ _ (T22.setTop (mkF m 116 #[.val (.int p1), .val (.int p2), .val (.int p3), .val (.int p4), .val (.int p5), .val (.int p6), .val (.int (0 : Int32)), .val (.int x3), .val (.int x5), .val (.int x7), .val (.int x9), .val (.int x11), .val (.int x13), .val (.int x15), .val (.int x17), .val (.int x19), .val (.int x21), .val (.ref r22), .unset] [(.int (0 : Int32))]))
    refine Done.step (fun t k => XS.iload X22.here hx rfl (hb hby at_116) rfl k) ?_
    show Done p e below s _ _ _ (T22.setTop (mkF m 118 #[.val (.int p1), .val (.int p2), .val (.int p3), .val (.int p4), .val (.int p5), .val (.int p6), .val (.int (0 : Int32)), .val (.int x3), .val (.int x5), .val (.int x7), .val (.int x9), .val (.int x11), .val (.int x13), .val (.int x15), .val (.int x17), .val (.int x19), .val (.int x21), .val (.ref r22), .unset] [(.int x11), (.int (0 : Int32))]))
    refine Done.step (fun t k => XS.iload X22.here hx rfl (hb hby at_118) rfl k) ?_
    show Done p e below s _ _ _ (T22.setTop (mkF m 120 #[.val (.int p1), .val (.int p2), .val (.int p3), .val (.int p4), .val (.int p5), .val (.int p6), .val (.int (0 : Int32)), .val (.int x3), .val (.int x5), .val (.int x7), .val (.int x9), .val (.int x11), .val (.int x13), .val (.int x15), .val (.int x17), .val (.int x19), .val (.int x21), .val (.ref r22), .unset] [(.int p5), (.int x11), (.int (0 : Int32))]))
    obtain ⟨v23, _, ⟨T23, L23, k23, n23⟩, -, X23, ⟨Lc23, hQ23, l23, y23, z23⟩, st23⟩ := Jvm.LawKit.callS X22 hx (y := (⟨"com/example/ruled_ledger/ruledledger/rules/SuperclassForestStartAbovePinLaw", "le", "(ZII)I"⟩ : MethodName)) hown (mvT hZ (hw _ (List.mem_of_getElem? (i := 12) rfl))) (mvT hZ (hw _ (List.mem_of_getElem? (i := 13) rfl))) (mvT hZ (hw _ (List.mem_of_getElem? (i := 9) rfl))) (mvT hZ (hw _ (List.mem_of_getElem? (i := 14) rfl))) (by decide) (backOf (W := 0) (rm4 l Z a0 hw [] (0 : Int32) x11 p5 T22.heap n0 Zk22 ) hZ (hw _ (List.mem_of_getElem? (i := 14) rfl)) (hw _ (List.mem_of_getElem? (i := 9) rfl)) (by decide) (by decide)) (g := (mkF m 120 #[.val (.int p1), .val (.int p2), .val (.int p3), .val (.int p4), .val (.int p5), .val (.int p6), .val (.int (0 : Int32)), .val (.int x3), .val (.int x5), .val (.int x7), .val (.int x9), .val (.int x11), .val (.int x13), .val (.int x15), .val (.int x17), .val (.int x19), .val (.int x21), .val (.ref r22), .unset] [(.int p5), (.int x11), (.int (0 : Int32))])) rfl (by rw [hml]; rfl) (argsL := [(.int (0 : Int32)), (.int x11), (.int p5)]) (rest := []) (lenOf pd_2 rfl) rfl (by show 2 * 0 + _ ≤ _; exact Nat.le_of_eq rfl) (hb hby at_120) (fun _ _ => ⟨rfl, rfl, (by decide : 1 + 0 ≤ _), (by decide : 4 + 0 ≤ _)⟩)
    dsimp only [Pt.U, Pt.locs, Pt.cells, Pt.slots] at X23 l23 y23 z23 st23 hQ23
    subst l23 y23 z23
    refine Done.step st23 ?_
    obtain ⟨rfl, N23q, e23⟩ := hQ23
    have N23 := Fr.app N22 N23q
    show Done p e below s _ _ _ (T23.setTop (mkF m 123 #[.val (.int p1), .val (.int p2), .val (.int p3), .val (.int p4), .val (.int p5), .val (.int p6), .val (.int (0 : Int32)), .val (.int x3), .val (.int x5), .val (.int x7), .val (.int x9), .val (.int x11), .val (.int x13), .val (.int x15), .val (.int x17), .val (.int x19), .val (.int x21), .val (.ref r22), .unset] [(.int (F4 (0 : Int32) x11 p5))]))
    refine Done.step (fun t k => XS.iload X23.here hx rfl (hb hby at_123) rfl k) ?_
    show Done p e below s _ _ _ (T23.setTop (mkF m 125 #[.val (.int p1), .val (.int p2), .val (.int p3), .val (.int p4), .val (.int p5), .val (.int p6), .val (.int (0 : Int32)), .val (.int x3), .val (.int x5), .val (.int x7), .val (.int x9), .val (.int x11), .val (.int x13), .val (.int x15), .val (.int x17), .val (.int x19), .val (.int x21), .val (.ref r22), .unset] [(.int (0 : Int32)), (.int (F4 (0 : Int32) x11 p5))]))
    refine Done.step (fun t k => XS.iconst X23.here hx rfl (hb hby at_125) k) ?_
    show Done p e below s _ _ _ (T23.setTop (mkF m 126 #[.val (.int p1), .val (.int p2), .val (.int p3), .val (.int p4), .val (.int p5), .val (.int p6), .val (.int (0 : Int32)), .val (.int x3), .val (.int x5), .val (.int x7), .val (.int x9), .val (.int x11), .val (.int x13), .val (.int x15), .val (.int x17), .val (.int x19), .val (.int x21), .val (.ref r22), .unset] [(.int (1 : Int32)), (.int (0 : Int32)), (.int (F4 (0 : Int32) x11 p5))]))
    refine Done.step (fun t k => XS.icmpYes X23.here hx rfl (pc0 := 126) (pc' := 133) rfl (hb hby at_126) rfl (flt (by decide)).2.2.2 (by decide) (by decide) k) ?_
    show Done p e below s _ _ _ (T23.setTop (mkF m 133 #[.val (.int p1), .val (.int p2), .val (.int p3), .val (.int p4), .val (.int p5), .val (.int p6), .val (.int (0 : Int32)), .val (.int x3), .val (.int x5), .val (.int x7), .val (.int x9), .val (.int x11), .val (.int x13), .val (.int x15), .val (.int x17), .val (.int x19), .val (.int x21), .val (.ref r22), .unset] [(.int (F4 (0 : Int32) x11 p5))]))
    refine Done.step (fun t k => XS.iconst X23.here hx rfl (hb hby at_133) k) ?_
    show Done p e below s _ _ _ (T23.setTop (mkF m 134 #[.val (.int p1), .val (.int p2), .val (.int p3), .val (.int p4), .val (.int p5), .val (.int p6), .val (.int (0 : Int32)), .val (.int x3), .val (.int x5), .val (.int x7), .val (.int x9), .val (.int x11), .val (.int x13), .val (.int x15), .val (.int x17), .val (.int x19), .val (.int x21), .val (.ref r22), .unset] [(.int (0 : Int32)), (.int (F4 (0 : Int32) x11 p5))]))
    refine Done.step (fun t k => XS.iload X23.here hx rfl (hb hby at_134) rfl k) ?_
    show Done p e below s _ _ _ (T23.setTop (mkF m 136 #[.val (.int p1), .val (.int p2), .val (.int p3), .val (.int p4), .val (.int p5), .val (.int p6), .val (.int (0 : Int32)), .val (.int x3), .val (.int x5), .val (.int x7), .val (.int x9), .val (.int x11), .val (.int x13), .val (.int x15), .val (.int x17), .val (.int x19), .val (.int x21), .val (.ref r22), .unset] [(.int x19), (.int (0 : Int32)), (.int (F4 (0 : Int32) x11 p5))]))
    refine Done.step (fun t k => XS.iload X23.here hx rfl (hb hby at_136) rfl k) ?_
    show Done p e below s _ _ _ (T23.setTop (mkF m 138 #[.val (.int p1), .val (.int p2), .val (.int p3), .val (.int p4), .val (.int p5), .val (.int p6), .val (.int (0 : Int32)), .val (.int x3), .val (.int x5), .val (.int x7), .val (.int x9), .val (.int x11), .val (.int x13), .val (.int x15), .val (.int x17), .val (.int x19), .val (.int x21), .val (.ref r22), .unset] [(.int p5), (.int x19), (.int (0 : Int32)), (.int (F4 (0 : Int32) x11 p5))]))
    obtain ⟨v24, _, ⟨T24, L24, k24, n24⟩, -, X24, ⟨Lc24, hQ24, l24, y24, z24⟩, st24⟩ := Jvm.LawKit.callS X23 hx (y := (⟨"com/example/ruled_ledger/ruledledger/rules/SuperclassForestStartAbovePinLaw", "le", "(ZII)I"⟩ : MethodName)) hown (mvT hZ (hw _ (List.mem_of_getElem? (i := 12) rfl))) (mvT hZ (hw _ (List.mem_of_getElem? (i := 13) rfl))) (mvT hZ (hw _ (List.mem_of_getElem? (i := 9) rfl))) (mvT hZ (hw _ (List.mem_of_getElem? (i := 14) rfl))) (by decide) (backOf (W := 1) (rm4 l Z a0 hw [] (0 : Int32) x19 p5 T22.heap n0 Zk22 ) hZ (hw _ (List.mem_of_getElem? (i := 14) rfl)) (hw _ (List.mem_of_getElem? (i := 9) rfl)) (by decide) (by decide)) (g := (mkF m 138 #[.val (.int p1), .val (.int p2), .val (.int p3), .val (.int p4), .val (.int p5), .val (.int p6), .val (.int (0 : Int32)), .val (.int x3), .val (.int x5), .val (.int x7), .val (.int x9), .val (.int x11), .val (.int x13), .val (.int x15), .val (.int x17), .val (.int x19), .val (.int x21), .val (.ref r22), .unset] [(.int p5), (.int x19), (.int (0 : Int32)), (.int (F4 (0 : Int32) x11 p5))])) rfl (by rw [hml]; rfl) (argsL := [(.int (0 : Int32)), (.int x19), (.int p5)]) (rest := [(.int (F4 (0 : Int32) x11 p5))]) (lenOf pd_2 rfl) rfl (by show 2 * 0 + _ ≤ _; exact Nat.le_of_eq rfl) (hb hby at_138) (fun _ _ => ⟨rfl, e23, (by decide : 1 + 0 ≤ _), (by decide : 4 + 0 ≤ _)⟩)
    dsimp only [Pt.U, Pt.locs, Pt.cells, Pt.slots] at X24 l24 y24 z24 st24 hQ24
    subst l24 y24 z24
    refine Done.step st24 ?_
    obtain ⟨rfl, N24q, e24⟩ := hQ24
    have N24 := Fr.app N23 N24q
    show Done p e below s _ _ _ (T24.setTop (mkF m 141 #[.val (.int p1), .val (.int p2), .val (.int p3), .val (.int p4), .val (.int p5), .val (.int p6), .val (.int (0 : Int32)), .val (.int x3), .val (.int x5), .val (.int x7), .val (.int x9), .val (.int x11), .val (.int x13), .val (.int x15), .val (.int x17), .val (.int x19), .val (.int x21), .val (.ref r22), .unset] [(.int (F4 (0 : Int32) x19 p5)), (.int (F4 (0 : Int32) x11 p5))]))
    refine Done.step (fun t k => XS.iadd X24.here hx rfl (hb hby at_141) rfl k) ?_
    show Done p e below s _ _ _ (T24.setTop (mkF m 142 #[.val (.int p1), .val (.int p2), .val (.int p3), .val (.int p4), .val (.int p5), .val (.int p6), .val (.int (0 : Int32)), .val (.int x3), .val (.int x5), .val (.int x7), .val (.int x9), .val (.int x11), .val (.int x13), .val (.int x15), .val (.int x17), .val (.int x19), .val (.int x21), .val (.ref r22), .unset] [(.int ((F4 (0 : Int32) x11 p5) + (F4 (0 : Int32) x19 p5)))]))
    refine Done.step (fun t k => XS.iload X24.here hx rfl (hb hby at_142) rfl k) ?_
    show Done p e below s _ _ _ (T24.setTop (mkF m 144 #[.val (.int p1), .val (.int p2), .val (.int p3), .val (.int p4), .val (.int p5), .val (.int p6), .val (.int (0 : Int32)), .val (.int x3), .val (.int x5), .val (.int x7), .val (.int x9), .val (.int x11), .val (.int x13), .val (.int x15), .val (.int x17), .val (.int x19), .val (.int x21), .val (.ref r22), .unset] [(.int (0 : Int32)), (.int ((F4 (0 : Int32) x11 p5) + (F4 (0 : Int32) x19 p5)))]))
    refine Done.step (fun t k => XS.iconst X24.here hx rfl (hb hby at_144) k) ?_
    show Done p e below s _ _ _ (T24.setTop (mkF m 145 #[.val (.int p1), .val (.int p2), .val (.int p3), .val (.int p4), .val (.int p5), .val (.int p6), .val (.int (0 : Int32)), .val (.int x3), .val (.int x5), .val (.int x7), .val (.int x9), .val (.int x11), .val (.int x13), .val (.int x15), .val (.int x17), .val (.int x19), .val (.int x21), .val (.ref r22), .unset] [(.int (2 : Int32)), (.int (0 : Int32)), (.int ((F4 (0 : Int32) x11 p5) + (F4 (0 : Int32) x19 p5)))]))
    refine Done.step (fun t k => XS.icmpYes X24.here hx rfl (pc0 := 145) (pc' := 152) rfl (hb hby at_145) rfl (flt (by decide)).2.2.2 (by decide) (by decide) k) ?_
    show Done p e below s _ _ _ (T24.setTop (mkF m 152 #[.val (.int p1), .val (.int p2), .val (.int p3), .val (.int p4), .val (.int p5), .val (.int p6), .val (.int (0 : Int32)), .val (.int x3), .val (.int x5), .val (.int x7), .val (.int x9), .val (.int x11), .val (.int x13), .val (.int x15), .val (.int x17), .val (.int x19), .val (.int x21), .val (.ref r22), .unset] [(.int ((F4 (0 : Int32) x11 p5) + (F4 (0 : Int32) x19 p5)))]))
    refine Done.step (fun t k => XS.iconst X24.here hx rfl (hb hby at_152) k) ?_
    show Done p e below s _ _ _ (T24.setTop (mkF m 153 #[.val (.int p1), .val (.int p2), .val (.int p3), .val (.int p4), .val (.int p5), .val (.int p6), .val (.int (0 : Int32)), .val (.int x3), .val (.int x5), .val (.int x7), .val (.int x9), .val (.int x11), .val (.int x13), .val (.int x15), .val (.int x17), .val (.int x19), .val (.int x21), .val (.ref r22), .unset] [(.int (0 : Int32)), (.int ((F4 (0 : Int32) x11 p5) + (F4 (0 : Int32) x19 p5)))]))
    refine Done.step (fun t k => XS.iload X24.here hx rfl (hb hby at_153) rfl k) ?_
    show Done p e below s _ _ _ (T24.setTop (mkF m 155 #[.val (.int p1), .val (.int p2), .val (.int p3), .val (.int p4), .val (.int p5), .val (.int p6), .val (.int (0 : Int32)), .val (.int x3), .val (.int x5), .val (.int x7), .val (.int x9), .val (.int x11), .val (.int x13), .val (.int x15), .val (.int x17), .val (.int x19), .val (.int x21), .val (.ref r22), .unset] [(.int x21), (.int (0 : Int32)), (.int ((F4 (0 : Int32) x11 p5) + (F4 (0 : Int32) x19 p5)))]))
    refine Done.step (fun t k => XS.iload X24.here hx rfl (hb hby at_155) rfl k) ?_
    show Done p e below s _ _ _ (T24.setTop (mkF m 157 #[.val (.int p1), .val (.int p2), .val (.int p3), .val (.int p4), .val (.int p5), .val (.int p6), .val (.int (0 : Int32)), .val (.int x3), .val (.int x5), .val (.int x7), .val (.int x9), .val (.int x11), .val (.int x13), .val (.int x15), .val (.int x17), .val (.int x19), .val (.int x21), .val (.ref r22), .unset] [(.int p5), (.int x21), (.int (0 : Int32)), (.int ((F4 (0 : Int32) x11 p5) + (F4 (0 : Int32) x19 p5)))]))
    obtain ⟨v25, _, ⟨T25, L25, k25, n25⟩, -, X25, ⟨Lc25, hQ25, l25, y25, z25⟩, st25⟩ := Jvm.LawKit.callS X24 hx (y := (⟨"com/example/ruled_ledger/ruledledger/rules/SuperclassForestStartAbovePinLaw", "le", "(ZII)I"⟩ : MethodName)) hown (mvT hZ (hw _ (List.mem_of_getElem? (i := 12) rfl))) (mvT hZ (hw _ (List.mem_of_getElem? (i := 13) rfl))) (mvT hZ (hw _ (List.mem_of_getElem? (i := 9) rfl))) (mvT hZ (hw _ (List.mem_of_getElem? (i := 14) rfl))) (by decide) (backOf (W := 1) (rm4 l Z a0 hw [] (0 : Int32) x21 p5 T22.heap n0 Zk22 ) hZ (hw _ (List.mem_of_getElem? (i := 14) rfl)) (hw _ (List.mem_of_getElem? (i := 9) rfl)) (by decide) (by decide)) (g := (mkF m 157 #[.val (.int p1), .val (.int p2), .val (.int p3), .val (.int p4), .val (.int p5), .val (.int p6), .val (.int (0 : Int32)), .val (.int x3), .val (.int x5), .val (.int x7), .val (.int x9), .val (.int x11), .val (.int x13), .val (.int x15), .val (.int x17), .val (.int x19), .val (.int x21), .val (.ref r22), .unset] [(.int p5), (.int x21), (.int (0 : Int32)), (.int ((F4 (0 : Int32) x11 p5) + (F4 (0 : Int32) x19 p5)))])) rfl (by rw [hml]; rfl) (argsL := [(.int (0 : Int32)), (.int x21), (.int p5)]) (rest := [(.int ((F4 (0 : Int32) x11 p5) + (F4 (0 : Int32) x19 p5)))]) (lenOf pd_2 rfl) rfl (by show 2 * 0 + _ ≤ _; exact Nat.le_of_eq rfl) (hb hby at_157) (fun _ _ => ⟨rfl, e24, (by decide : 1 + 0 ≤ _), (by decide : 4 + 0 ≤ _)⟩)
    dsimp only [Pt.U, Pt.locs, Pt.cells, Pt.slots] at X25 l25 y25 z25 st25 hQ25
    subst l25 y25 z25
    refine Done.step st25 ?_
    obtain ⟨rfl, N25q, e25⟩ := hQ25
    have N25 := Fr.app N24 N25q
    show Done p e below s _ _ _ (T25.setTop (mkF m 160 #[.val (.int p1), .val (.int p2), .val (.int p3), .val (.int p4), .val (.int p5), .val (.int p6), .val (.int (0 : Int32)), .val (.int x3), .val (.int x5), .val (.int x7), .val (.int x9), .val (.int x11), .val (.int x13), .val (.int x15), .val (.int x17), .val (.int x19), .val (.int x21), .val (.ref r22), .unset] [(.int (F4 (0 : Int32) x21 p5)), (.int ((F4 (0 : Int32) x11 p5) + (F4 (0 : Int32) x19 p5)))]))
    refine Done.step (fun t k => XS.iadd X25.here hx rfl (hb hby at_160) rfl k) ?_
    show Done p e below s _ _ _ (T25.setTop (mkF m 161 #[.val (.int p1), .val (.int p2), .val (.int p3), .val (.int p4), .val (.int p5), .val (.int p6), .val (.int (0 : Int32)), .val (.int x3), .val (.int x5), .val (.int x7), .val (.int x9), .val (.int x11), .val (.int x13), .val (.int x15), .val (.int x17), .val (.int x19), .val (.int x21), .val (.ref r22), .unset] [(.int (((F4 (0 : Int32) x11 p5) + (F4 (0 : Int32) x19 p5)) + (F4 (0 : Int32) x21 p5)))]))
    refine Done.step (fun t k => XS.iload X25.here hx rfl (hb hby at_161) rfl k) ?_
    show Done p e below s _ _ _ (T25.setTop (mkF m 163 #[.val (.int p1), .val (.int p2), .val (.int p3), .val (.int p4), .val (.int p5), .val (.int p6), .val (.int (0 : Int32)), .val (.int x3), .val (.int x5), .val (.int x7), .val (.int x9), .val (.int x11), .val (.int x13), .val (.int x15), .val (.int x17), .val (.int x19), .val (.int x21), .val (.ref r22), .unset] [(.int (0 : Int32)), (.int (((F4 (0 : Int32) x11 p5) + (F4 (0 : Int32) x19 p5)) + (F4 (0 : Int32) x21 p5)))]))
    refine Done.step (fun t k => XS.iconst X25.here hx rfl (hb hby at_163) k) ?_
    show Done p e below s _ _ _ (T25.setTop (mkF m 164 #[.val (.int p1), .val (.int p2), .val (.int p3), .val (.int p4), .val (.int p5), .val (.int p6), .val (.int (0 : Int32)), .val (.int x3), .val (.int x5), .val (.int x7), .val (.int x9), .val (.int x11), .val (.int x13), .val (.int x15), .val (.int x17), .val (.int x19), .val (.int x21), .val (.ref r22), .unset] [(.int (3 : Int32)), (.int (0 : Int32)), (.int (((F4 (0 : Int32) x11 p5) + (F4 (0 : Int32) x19 p5)) + (F4 (0 : Int32) x21 p5)))]))
    refine Done.step (fun t k => XS.icmpYes X25.here hx rfl (pc0 := 164) (pc' := 171) rfl (hb hby at_164) rfl (flt (by decide)).2.2.2 (by decide) (by decide) k) ?_
    show Done p e below s _ _ _ (T25.setTop (mkF m 171 #[.val (.int p1), .val (.int p2), .val (.int p3), .val (.int p4), .val (.int p5), .val (.int p6), .val (.int (0 : Int32)), .val (.int x3), .val (.int x5), .val (.int x7), .val (.int x9), .val (.int x11), .val (.int x13), .val (.int x15), .val (.int x17), .val (.int x19), .val (.int x21), .val (.ref r22), .unset] [(.int (((F4 (0 : Int32) x11 p5) + (F4 (0 : Int32) x19 p5)) + (F4 (0 : Int32) x21 p5)))]))
    refine Done.step (fun t k => XS.iconst X25.here hx rfl (hb hby at_171) k) ?_
    show Done p e below s _ _ _ (T25.setTop (mkF m 172 #[.val (.int p1), .val (.int p2), .val (.int p3), .val (.int p4), .val (.int p5), .val (.int p6), .val (.int (0 : Int32)), .val (.int x3), .val (.int x5), .val (.int x7), .val (.int x9), .val (.int x11), .val (.int x13), .val (.int x15), .val (.int x17), .val (.int x19), .val (.int x21), .val (.ref r22), .unset] [(.int (0 : Int32)), (.int (((F4 (0 : Int32) x11 p5) + (F4 (0 : Int32) x19 p5)) + (F4 (0 : Int32) x21 p5)))]))
    refine Done.step (fun t k => XS.iload X25.here hx rfl (hb hby at_172) rfl k) ?_
    show Done p e below s _ _ _ (T25.setTop (mkF m 174 #[.val (.int p1), .val (.int p2), .val (.int p3), .val (.int p4), .val (.int p5), .val (.int p6), .val (.int (0 : Int32)), .val (.int x3), .val (.int x5), .val (.int x7), .val (.int x9), .val (.int x11), .val (.int x13), .val (.int x15), .val (.int x17), .val (.int x19), .val (.int x21), .val (.ref r22), .unset] [(.int x17), (.int (0 : Int32)), (.int (((F4 (0 : Int32) x11 p5) + (F4 (0 : Int32) x19 p5)) + (F4 (0 : Int32) x21 p5)))]))
    refine Done.step (fun t k => XS.iload X25.here hx rfl (hb hby at_174) rfl k) ?_
    show Done p e below s _ _ _ (T25.setTop (mkF m 176 #[.val (.int p1), .val (.int p2), .val (.int p3), .val (.int p4), .val (.int p5), .val (.int p6), .val (.int (0 : Int32)), .val (.int x3), .val (.int x5), .val (.int x7), .val (.int x9), .val (.int x11), .val (.int x13), .val (.int x15), .val (.int x17), .val (.int x19), .val (.int x21), .val (.ref r22), .unset] [(.int p5), (.int x17), (.int (0 : Int32)), (.int (((F4 (0 : Int32) x11 p5) + (F4 (0 : Int32) x19 p5)) + (F4 (0 : Int32) x21 p5)))]))
    obtain ⟨v26, _, ⟨T26, L26, k26, n26⟩, -, X26, ⟨Lc26, hQ26, l26, y26, z26⟩, st26⟩ := Jvm.LawKit.callS X25 hx (y := (⟨"com/example/ruled_ledger/ruledledger/rules/SuperclassForestStartAbovePinLaw", "le", "(ZII)I"⟩ : MethodName)) hown (mvT hZ (hw _ (List.mem_of_getElem? (i := 12) rfl))) (mvT hZ (hw _ (List.mem_of_getElem? (i := 13) rfl))) (mvT hZ (hw _ (List.mem_of_getElem? (i := 9) rfl))) (mvT hZ (hw _ (List.mem_of_getElem? (i := 14) rfl))) (by decide) (backOf (W := 1) (rm4 l Z a0 hw [] (0 : Int32) x17 p5 T22.heap n0 Zk22 ) hZ (hw _ (List.mem_of_getElem? (i := 14) rfl)) (hw _ (List.mem_of_getElem? (i := 9) rfl)) (by decide) (by decide)) (g := (mkF m 176 #[.val (.int p1), .val (.int p2), .val (.int p3), .val (.int p4), .val (.int p5), .val (.int p6), .val (.int (0 : Int32)), .val (.int x3), .val (.int x5), .val (.int x7), .val (.int x9), .val (.int x11), .val (.int x13), .val (.int x15), .val (.int x17), .val (.int x19), .val (.int x21), .val (.ref r22), .unset] [(.int p5), (.int x17), (.int (0 : Int32)), (.int (((F4 (0 : Int32) x11 p5) + (F4 (0 : Int32) x19 p5)) + (F4 (0 : Int32) x21 p5)))])) rfl (by rw [hml]; rfl) (argsL := [(.int (0 : Int32)), (.int x17), (.int p5)]) (rest := [(.int (((F4 (0 : Int32) x11 p5) + (F4 (0 : Int32) x19 p5)) + (F4 (0 : Int32) x21 p5)))]) (lenOf pd_2 rfl) rfl (by show 2 * 0 + _ ≤ _; exact Nat.le_of_eq rfl) (hb hby at_176) (fun _ _ => ⟨rfl, e25, (by decide : 1 + 0 ≤ _), (by decide : 4 + 0 ≤ _)⟩)
    dsimp only [Pt.U, Pt.locs, Pt.cells, Pt.slots] at X26 l26 y26 z26 st26 hQ26
    subst l26 y26 z26
    refine Done.step st26 ?_
    obtain ⟨rfl, N26q, e26⟩ := hQ26
    have N26 := Fr.app N25 N26q
    show Done p e below s _ _ _ (T26.setTop (mkF m 179 #[.val (.int p1), .val (.int p2), .val (.int p3), .val (.int p4), .val (.int p5), .val (.int p6), .val (.int (0 : Int32)), .val (.int x3), .val (.int x5), .val (.int x7), .val (.int x9), .val (.int x11), .val (.int x13), .val (.int x15), .val (.int x17), .val (.int x19), .val (.int x21), .val (.ref r22), .unset] [(.int (F4 (0 : Int32) x17 p5)), (.int (((F4 (0 : Int32) x11 p5) + (F4 (0 : Int32) x19 p5)) + (F4 (0 : Int32) x21 p5)))]))
    refine Done.step (fun t k => XS.iadd X26.here hx rfl (hb hby at_179) rfl k) ?_
    show Done p e below s _ _ _ (T26.setTop (mkF m 180 #[.val (.int p1), .val (.int p2), .val (.int p3), .val (.int p4), .val (.int p5), .val (.int p6), .val (.int (0 : Int32)), .val (.int x3), .val (.int x5), .val (.int x7), .val (.int x9), .val (.int x11), .val (.int x13), .val (.int x15), .val (.int x17), .val (.int x19), .val (.int x21), .val (.ref r22), .unset] [(.int ((((F4 (0 : Int32) x11 p5) + (F4 (0 : Int32) x19 p5)) + (F4 (0 : Int32) x21 p5)) + (F4 (0 : Int32) x17 p5)))]))
    refine Done.step (fun t k => XS.istore X26.here hx rfl (hb hby at_180) rfl (l' := #[.val (.int p1), .val (.int p2), .val (.int p3), .val (.int p4), .val (.int p5), .val (.int p6), .val (.int (0 : Int32)), .val (.int x3), .val (.int x5), .val (.int x7), .val (.int x9), .val (.int x11), .val (.int x13), .val (.int x15), .val (.int x17), .val (.int x19), .val (.int x21), .val (.ref r22), .val (.int ((((F4 (0 : Int32) x11 p5) + (F4 (0 : Int32) x19 p5)) + (F4 (0 : Int32) x21 p5)) + (F4 (0 : Int32) x17 p5)))]) rfl k) ?_
    show Done p e below s _ _ _ (T26.setTop (mkF m 182 #[.val (.int p1), .val (.int p2), .val (.int p3), .val (.int p4), .val (.int p5), .val (.int p6), .val (.int (0 : Int32)), .val (.int x3), .val (.int x5), .val (.int x7), .val (.int x9), .val (.int x11), .val (.int x13), .val (.int x15), .val (.int x17), .val (.int x19), .val (.int x21), .val (.ref r22), .val (.int ((((F4 (0 : Int32) x11 p5) + (F4 (0 : Int32) x19 p5)) + (F4 (0 : Int32) x21 p5)) + (F4 (0 : Int32) x17 p5)))] []))
    refine Done.step (fun t k => XS.aload X26.here hx rfl (hb hby at_182) rfl rfl k) ?_
    show Done p e below s _ _ _ (T26.setTop (mkF m 184 #[.val (.int p1), .val (.int p2), .val (.int p3), .val (.int p4), .val (.int p5), .val (.int p6), .val (.int (0 : Int32)), .val (.int x3), .val (.int x5), .val (.int x7), .val (.int x9), .val (.int x11), .val (.int x13), .val (.int x15), .val (.int x17), .val (.int x19), .val (.int x21), .val (.ref r22), .val (.int ((((F4 (0 : Int32) x11 p5) + (F4 (0 : Int32) x19 p5)) + (F4 (0 : Int32) x21 p5)) + (F4 (0 : Int32) x17 p5)))] [(.ref r22)]))
    refine Done.step (fun t k => XS.iload X26.here hx rfl (hb hby at_184) rfl k) ?_
    show Done p e below s _ _ _ (T26.setTop (mkF m 186 #[.val (.int p1), .val (.int p2), .val (.int p3), .val (.int p4), .val (.int p5), .val (.int p6), .val (.int (0 : Int32)), .val (.int x3), .val (.int x5), .val (.int x7), .val (.int x9), .val (.int x11), .val (.int x13), .val (.int x15), .val (.int x17), .val (.int x19), .val (.int x21), .val (.ref r22), .val (.int ((((F4 (0 : Int32) x11 p5) + (F4 (0 : Int32) x19 p5)) + (F4 (0 : Int32) x21 p5)) + (F4 (0 : Int32) x17 p5)))] [(.int p5), (.ref r22)]))
    obtain ⟨v27, _, ⟨T27, L27, k27, n27⟩, -, X27, ⟨Lc27, hQ27, l27, y27, z27⟩, st27⟩ := Jvm.LawKit.callS X26 hx (y := (⟨"com/example/ruled_ledger/ruledledger/rules/SuperclassForest", "startAbove", "([II)I"⟩ : MethodName)) hown (mvT hZ (hw _ (List.mem_of_getElem? (i := 15) rfl))) (mvT hZ (hw _ (List.mem_of_getElem? (i := 16) rfl))) (mvT hZ (hw _ (List.mem_of_getElem? (i := 17) rfl))) (mvT hZ (hw _ (List.mem_of_getElem? (i := 18) rfl))) (by decide) (backOf (W := 0) (rm5 l Z a0 hw [] r22 p5 (MK (0 : Int32) x11 x19 x21 x17) T22.heap n0 Zk22 x22 (own_asc0 _ _ _ _ hsrt) (Nat.le_of_ble_eq_true rfl)) hZ (hw _ (List.mem_of_getElem? (i := 18) rfl)) (hw _ (List.mem_of_getElem? (i := 17) rfl)) (by decide) (by decide)) (g := (mkF m 186 #[.val (.int p1), .val (.int p2), .val (.int p3), .val (.int p4), .val (.int p5), .val (.int p6), .val (.int (0 : Int32)), .val (.int x3), .val (.int x5), .val (.int x7), .val (.int x9), .val (.int x11), .val (.int x13), .val (.int x15), .val (.int x17), .val (.int x19), .val (.int x21), .val (.ref r22), .val (.int ((((F4 (0 : Int32) x11 p5) + (F4 (0 : Int32) x19 p5)) + (F4 (0 : Int32) x21 p5)) + (F4 (0 : Int32) x17 p5)))] [(.int p5), (.ref r22)])) rfl (by rw [hml]; rfl) (argsL := [(.ref r22), (.int p5)]) (rest := []) (lenOf pd_3 rfl) rfl (by show 2 * 0 + _ ≤ _; exact Nat.le_of_eq rfl) (hb hby at_186) (fun _ _ => ⟨rfl, e26, (by decide : 1 + 0 ≤ _), (by decide : 4 + 0 ≤ _)⟩)
    dsimp only [Pt.U, Pt.locs, Pt.cells, Pt.slots] at X27 l27 y27 z27 st27 hQ27
    subst l27 y27 z27
    refine Done.step st27 ?_
    obtain ⟨⟨kk, rfl, hup⟩, N27q, e27⟩ := hQ27
    have N27 := Fr.app N26 N27q
    show Done p e below s _ _ _ (T27.setTop (mkF m 189 #[.val (.int p1), .val (.int p2), .val (.int p3), .val (.int p4), .val (.int p5), .val (.int p6), .val (.int (0 : Int32)), .val (.int x3), .val (.int x5), .val (.int x7), .val (.int x9), .val (.int x11), .val (.int x13), .val (.int x15), .val (.int x17), .val (.int x19), .val (.int x21), .val (.ref r22), .val (.int ((((F4 (0 : Int32) x11 p5) + (F4 (0 : Int32) x19 p5)) + (F4 (0 : Int32) x21 p5)) + (F4 (0 : Int32) x17 p5)))] [(.int kk)]))
    refine Done.step (fun t k => XS.iload X27.here hx rfl (hb hby at_189) rfl k) ?_
    show Done p e below s _ _ _ (T27.setTop (mkF m 191 #[.val (.int p1), .val (.int p2), .val (.int p3), .val (.int p4), .val (.int p5), .val (.int p6), .val (.int (0 : Int32)), .val (.int x3), .val (.int x5), .val (.int x7), .val (.int x9), .val (.int x11), .val (.int x13), .val (.int x15), .val (.int x17), .val (.int x19), .val (.int x21), .val (.ref r22), .val (.int ((((F4 (0 : Int32) x11 p5) + (F4 (0 : Int32) x19 p5)) + (F4 (0 : Int32) x21 p5)) + (F4 (0 : Int32) x17 p5)))] [(.int ((((F4 (0 : Int32) x11 p5) + (F4 (0 : Int32) x19 p5)) + (F4 (0 : Int32) x21 p5)) + (F4 (0 : Int32) x17 p5))), (.int kk)]))
    refine Done.step (fun t k => XS.icmpNo X27.here hx rfl (hb hby at_191) rfl (teq (own_cnt0 x11 x19 x21 x17 p5 kk hup)).2 k) ?_
    show Done p e below s _ _ _ (T27.setTop (mkF m 194 #[.val (.int p1), .val (.int p2), .val (.int p3), .val (.int p4), .val (.int p5), .val (.int p6), .val (.int (0 : Int32)), .val (.int x3), .val (.int x5), .val (.int x7), .val (.int x9), .val (.int x11), .val (.int x13), .val (.int x15), .val (.int x17), .val (.int x19), .val (.int x21), .val (.ref r22), .val (.int ((((F4 (0 : Int32) x11 p5) + (F4 (0 : Int32) x19 p5)) + (F4 (0 : Int32) x21 p5)) + (F4 (0 : Int32) x17 p5)))] []))
    refine Done.step (fun t k => XS.iconst X27.here hx rfl (hb hby at_194) k) ?_
    show Done p e below s _ _ _ (T27.setTop (mkF m 195 #[.val (.int p1), .val (.int p2), .val (.int p3), .val (.int p4), .val (.int p5), .val (.int p6), .val (.int (0 : Int32)), .val (.int x3), .val (.int x5), .val (.int x7), .val (.int x9), .val (.int x11), .val (.int x13), .val (.int x15), .val (.int x17), .val (.int x19), .val (.int x21), .val (.ref r22), .val (.int ((((F4 (0 : Int32) x11 p5) + (F4 (0 : Int32) x19 p5)) + (F4 (0 : Int32) x21 p5)) + (F4 (0 : Int32) x17 p5)))] [(.int (1 : Int32))]))
    refine Done.step (fun t k => XS.goto X27.here hx rfl (pc0 := 195) (pc' := 199) rfl (hb hby at_195) (by decide) (by decide) k) ?_
    show Done p e below s _ _ _ (T27.setTop (mkF m 199 #[.val (.int p1), .val (.int p2), .val (.int p3), .val (.int p4), .val (.int p5), .val (.int p6), .val (.int (0 : Int32)), .val (.int x3), .val (.int x5), .val (.int x7), .val (.int x9), .val (.int x11), .val (.int x13), .val (.int x15), .val (.int x17), .val (.int x19), .val (.int x21), .val (.ref r22), .val (.int ((((F4 (0 : Int32) x11 p5) + (F4 (0 : Int32) x19 p5)) + (F4 (0 : Int32) x21 p5)) + (F4 (0 : Int32) x17 p5)))] [(.int (1 : Int32))]))
    exact Done.narr X27 hx hlk hret (by simp) (hb hby at_199) (by decide) (by decide) ⟨rfl, N27⟩
  · show Done p e below s _ _ _ (T22.setTop (mkF m 106 #[.val (.int p1), .val (.int p2), .val (.int p3), .val (.int p4), .val (.int p5), .val (.int p6), .val (.int (1 : Int32)), .val (.int x3), .val (.int x5), .val (.int x7), .val (.int x9), .val (.int x11), .val (.int x13), .val (.int x15), .val (.int x17), .val (.int x19), .val (.int x21), .val (.ref r22), .unset] []))
    refine Done.step (fun t k => XS.iload X22.here hx rfl (hb hby at_106) rfl k) ?_
    show Done p e below s _ _ _ (T22.setTop (mkF m 108 #[.val (.int p1), .val (.int p2), .val (.int p3), .val (.int p4), .val (.int p5), .val (.int p6), .val (.int (1 : Int32)), .val (.int x3), .val (.int x5), .val (.int x7), .val (.int x9), .val (.int x11), .val (.int x13), .val (.int x15), .val (.int x17), .val (.int x19), .val (.int x21), .val (.ref r22), .unset] [(.int (1 : Int32))]))
    refine Done.step (fun t k => XS.ifNo X22.here hx rfl (hb hby at_108) rfl ((if0 _ _).trans (tlt (by decide)).2.2.2) k) ?_
    show Done p e below s _ _ _ (T22.setTop (mkF m 111 #[.val (.int p1), .val (.int p2), .val (.int p3), .val (.int p4), .val (.int p5), .val (.int p6), .val (.int (1 : Int32)), .val (.int x3), .val (.int x5), .val (.int x7), .val (.int x9), .val (.int x11), .val (.int x13), .val (.int x15), .val (.int x17), .val (.int x19), .val (.int x21), .val (.ref r22), .unset] []))
    refine Done.step (fun t k => XS.iconst X22.here hx rfl (hb hby at_111) k) ?_
    show Done p e below s _ _ _ (T22.setTop (mkF m 112 #[.val (.int p1), .val (.int p2), .val (.int p3), .val (.int p4), .val (.int p5), .val (.int p6), .val (.int (1 : Int32)), .val (.int x3), .val (.int x5), .val (.int x7), .val (.int x9), .val (.int x11), .val (.int x13), .val (.int x15), .val (.int x17), .val (.int x19), .val (.int x21), .val (.ref r22), .unset] [(.int (1 : Int32))]))
    refine Done.step (fun t k => XS.goto X22.here hx rfl (pc0 := 112) (pc' := 116) rfl (hb hby at_112) (by decide) (by decide) k) ?_
    show Done p e below s _ _ _ (T22.setTop (mkF m 116 #[.val (.int p1), .val (.int p2), .val (.int p3), .val (.int p4), .val (.int p5), .val (.int p6), .val (.int (1 : Int32)), .val (.int x3), .val (.int x5), .val (.int x7), .val (.int x9), .val (.int x11), .val (.int x13), .val (.int x15), .val (.int x17), .val (.int x19), .val (.int x21), .val (.ref r22), .unset] [(.int (1 : Int32))]))
    refine Done.step (fun t k => XS.iload X22.here hx rfl (hb hby at_116) rfl k) ?_
    show Done p e below s _ _ _ (T22.setTop (mkF m 118 #[.val (.int p1), .val (.int p2), .val (.int p3), .val (.int p4), .val (.int p5), .val (.int p6), .val (.int (1 : Int32)), .val (.int x3), .val (.int x5), .val (.int x7), .val (.int x9), .val (.int x11), .val (.int x13), .val (.int x15), .val (.int x17), .val (.int x19), .val (.int x21), .val (.ref r22), .unset] [(.int x11), (.int (1 : Int32))]))
    refine Done.step (fun t k => XS.iload X22.here hx rfl (hb hby at_118) rfl k) ?_
    show Done p e below s _ _ _ (T22.setTop (mkF m 120 #[.val (.int p1), .val (.int p2), .val (.int p3), .val (.int p4), .val (.int p5), .val (.int p6), .val (.int (1 : Int32)), .val (.int x3), .val (.int x5), .val (.int x7), .val (.int x9), .val (.int x11), .val (.int x13), .val (.int x15), .val (.int x17), .val (.int x19), .val (.int x21), .val (.ref r22), .unset] [(.int p5), (.int x11), (.int (1 : Int32))]))
    obtain ⟨v28, _, ⟨T28, L28, k28, n28⟩, -, X28, ⟨Lc28, hQ28, l28, y28, z28⟩, st28⟩ := Jvm.LawKit.callS X22 hx (y := (⟨"com/example/ruled_ledger/ruledledger/rules/SuperclassForestStartAbovePinLaw", "le", "(ZII)I"⟩ : MethodName)) hown (mvT hZ (hw _ (List.mem_of_getElem? (i := 12) rfl))) (mvT hZ (hw _ (List.mem_of_getElem? (i := 13) rfl))) (mvT hZ (hw _ (List.mem_of_getElem? (i := 9) rfl))) (mvT hZ (hw _ (List.mem_of_getElem? (i := 14) rfl))) (by decide) (backOf (W := 0) (rm4 l Z a0 hw [] (1 : Int32) x11 p5 T22.heap n0 Zk22 ) hZ (hw _ (List.mem_of_getElem? (i := 14) rfl)) (hw _ (List.mem_of_getElem? (i := 9) rfl)) (by decide) (by decide)) (g := (mkF m 120 #[.val (.int p1), .val (.int p2), .val (.int p3), .val (.int p4), .val (.int p5), .val (.int p6), .val (.int (1 : Int32)), .val (.int x3), .val (.int x5), .val (.int x7), .val (.int x9), .val (.int x11), .val (.int x13), .val (.int x15), .val (.int x17), .val (.int x19), .val (.int x21), .val (.ref r22), .unset] [(.int p5), (.int x11), (.int (1 : Int32))])) rfl (by rw [hml]; rfl) (argsL := [(.int (1 : Int32)), (.int x11), (.int p5)]) (rest := []) (lenOf pd_2 rfl) rfl (by show 2 * 0 + _ ≤ _; exact Nat.le_of_eq rfl) (hb hby at_120) (fun _ _ => ⟨rfl, rfl, (by decide : 1 + 0 ≤ _), (by decide : 4 + 0 ≤ _)⟩)
    dsimp only [Pt.U, Pt.locs, Pt.cells, Pt.slots] at X28 l28 y28 z28 st28 hQ28
    subst l28 y28 z28
    refine Done.step st28 ?_
    obtain ⟨rfl, N28q, e28⟩ := hQ28
    have N28 := Fr.app N22 N28q
    show Done p e below s _ _ _ (T28.setTop (mkF m 123 #[.val (.int p1), .val (.int p2), .val (.int p3), .val (.int p4), .val (.int p5), .val (.int p6), .val (.int (1 : Int32)), .val (.int x3), .val (.int x5), .val (.int x7), .val (.int x9), .val (.int x11), .val (.int x13), .val (.int x15), .val (.int x17), .val (.int x19), .val (.int x21), .val (.ref r22), .unset] [(.int (F4 (1 : Int32) x11 p5))]))
    refine Done.step (fun t k => XS.iload X28.here hx rfl (hb hby at_123) rfl k) ?_
    show Done p e below s _ _ _ (T28.setTop (mkF m 125 #[.val (.int p1), .val (.int p2), .val (.int p3), .val (.int p4), .val (.int p5), .val (.int p6), .val (.int (1 : Int32)), .val (.int x3), .val (.int x5), .val (.int x7), .val (.int x9), .val (.int x11), .val (.int x13), .val (.int x15), .val (.int x17), .val (.int x19), .val (.int x21), .val (.ref r22), .unset] [(.int (1 : Int32)), (.int (F4 (1 : Int32) x11 p5))]))
    refine Done.step (fun t k => XS.iconst X28.here hx rfl (hb hby at_125) k) ?_
    show Done p e below s _ _ _ (T28.setTop (mkF m 126 #[.val (.int p1), .val (.int p2), .val (.int p3), .val (.int p4), .val (.int p5), .val (.int p6), .val (.int (1 : Int32)), .val (.int x3), .val (.int x5), .val (.int x7), .val (.int x9), .val (.int x11), .val (.int x13), .val (.int x15), .val (.int x17), .val (.int x19), .val (.int x21), .val (.ref r22), .unset] [(.int (1 : Int32)), (.int (1 : Int32)), (.int (F4 (1 : Int32) x11 p5))]))
    refine Done.step (fun t k => XS.icmpYes X28.here hx rfl (pc0 := 126) (pc' := 133) rfl (hb hby at_126) rfl (flt (by decide)).2.2.2 (by decide) (by decide) k) ?_
    show Done p e below s _ _ _ (T28.setTop (mkF m 133 #[.val (.int p1), .val (.int p2), .val (.int p3), .val (.int p4), .val (.int p5), .val (.int p6), .val (.int (1 : Int32)), .val (.int x3), .val (.int x5), .val (.int x7), .val (.int x9), .val (.int x11), .val (.int x13), .val (.int x15), .val (.int x17), .val (.int x19), .val (.int x21), .val (.ref r22), .unset] [(.int (F4 (1 : Int32) x11 p5))]))
    refine Done.step (fun t k => XS.iconst X28.here hx rfl (hb hby at_133) k) ?_
    show Done p e below s _ _ _ (T28.setTop (mkF m 134 #[.val (.int p1), .val (.int p2), .val (.int p3), .val (.int p4), .val (.int p5), .val (.int p6), .val (.int (1 : Int32)), .val (.int x3), .val (.int x5), .val (.int x7), .val (.int x9), .val (.int x11), .val (.int x13), .val (.int x15), .val (.int x17), .val (.int x19), .val (.int x21), .val (.ref r22), .unset] [(.int (0 : Int32)), (.int (F4 (1 : Int32) x11 p5))]))
    refine Done.step (fun t k => XS.iload X28.here hx rfl (hb hby at_134) rfl k) ?_
    show Done p e below s _ _ _ (T28.setTop (mkF m 136 #[.val (.int p1), .val (.int p2), .val (.int p3), .val (.int p4), .val (.int p5), .val (.int p6), .val (.int (1 : Int32)), .val (.int x3), .val (.int x5), .val (.int x7), .val (.int x9), .val (.int x11), .val (.int x13), .val (.int x15), .val (.int x17), .val (.int x19), .val (.int x21), .val (.ref r22), .unset] [(.int x19), (.int (0 : Int32)), (.int (F4 (1 : Int32) x11 p5))]))
    refine Done.step (fun t k => XS.iload X28.here hx rfl (hb hby at_136) rfl k) ?_
    show Done p e below s _ _ _ (T28.setTop (mkF m 138 #[.val (.int p1), .val (.int p2), .val (.int p3), .val (.int p4), .val (.int p5), .val (.int p6), .val (.int (1 : Int32)), .val (.int x3), .val (.int x5), .val (.int x7), .val (.int x9), .val (.int x11), .val (.int x13), .val (.int x15), .val (.int x17), .val (.int x19), .val (.int x21), .val (.ref r22), .unset] [(.int p5), (.int x19), (.int (0 : Int32)), (.int (F4 (1 : Int32) x11 p5))]))
    obtain ⟨v29, _, ⟨T29, L29, k29, n29⟩, -, X29, ⟨Lc29, hQ29, l29, y29, z29⟩, st29⟩ := Jvm.LawKit.callS X28 hx (y := (⟨"com/example/ruled_ledger/ruledledger/rules/SuperclassForestStartAbovePinLaw", "le", "(ZII)I"⟩ : MethodName)) hown (mvT hZ (hw _ (List.mem_of_getElem? (i := 12) rfl))) (mvT hZ (hw _ (List.mem_of_getElem? (i := 13) rfl))) (mvT hZ (hw _ (List.mem_of_getElem? (i := 9) rfl))) (mvT hZ (hw _ (List.mem_of_getElem? (i := 14) rfl))) (by decide) (backOf (W := 1) (rm4 l Z a0 hw [] (0 : Int32) x19 p5 T22.heap n0 Zk22 ) hZ (hw _ (List.mem_of_getElem? (i := 14) rfl)) (hw _ (List.mem_of_getElem? (i := 9) rfl)) (by decide) (by decide)) (g := (mkF m 138 #[.val (.int p1), .val (.int p2), .val (.int p3), .val (.int p4), .val (.int p5), .val (.int p6), .val (.int (1 : Int32)), .val (.int x3), .val (.int x5), .val (.int x7), .val (.int x9), .val (.int x11), .val (.int x13), .val (.int x15), .val (.int x17), .val (.int x19), .val (.int x21), .val (.ref r22), .unset] [(.int p5), (.int x19), (.int (0 : Int32)), (.int (F4 (1 : Int32) x11 p5))])) rfl (by rw [hml]; rfl) (argsL := [(.int (0 : Int32)), (.int x19), (.int p5)]) (rest := [(.int (F4 (1 : Int32) x11 p5))]) (lenOf pd_2 rfl) rfl (by show 2 * 0 + _ ≤ _; exact Nat.le_of_eq rfl) (hb hby at_138) (fun _ _ => ⟨rfl, e28, (by decide : 1 + 0 ≤ _), (by decide : 4 + 0 ≤ _)⟩)
    dsimp only [Pt.U, Pt.locs, Pt.cells, Pt.slots] at X29 l29 y29 z29 st29 hQ29
    subst l29 y29 z29
    refine Done.step st29 ?_
    obtain ⟨rfl, N29q, e29⟩ := hQ29
    have N29 := Fr.app N28 N29q
    show Done p e below s _ _ _ (T29.setTop (mkF m 141 #[.val (.int p1), .val (.int p2), .val (.int p3), .val (.int p4), .val (.int p5), .val (.int p6), .val (.int (1 : Int32)), .val (.int x3), .val (.int x5), .val (.int x7), .val (.int x9), .val (.int x11), .val (.int x13), .val (.int x15), .val (.int x17), .val (.int x19), .val (.int x21), .val (.ref r22), .unset] [(.int (F4 (0 : Int32) x19 p5)), (.int (F4 (1 : Int32) x11 p5))]))
    refine Done.step (fun t k => XS.iadd X29.here hx rfl (hb hby at_141) rfl k) ?_
    show Done p e below s _ _ _ (T29.setTop (mkF m 142 #[.val (.int p1), .val (.int p2), .val (.int p3), .val (.int p4), .val (.int p5), .val (.int p6), .val (.int (1 : Int32)), .val (.int x3), .val (.int x5), .val (.int x7), .val (.int x9), .val (.int x11), .val (.int x13), .val (.int x15), .val (.int x17), .val (.int x19), .val (.int x21), .val (.ref r22), .unset] [(.int ((F4 (1 : Int32) x11 p5) + (F4 (0 : Int32) x19 p5)))]))
    refine Done.step (fun t k => XS.iload X29.here hx rfl (hb hby at_142) rfl k) ?_
    show Done p e below s _ _ _ (T29.setTop (mkF m 144 #[.val (.int p1), .val (.int p2), .val (.int p3), .val (.int p4), .val (.int p5), .val (.int p6), .val (.int (1 : Int32)), .val (.int x3), .val (.int x5), .val (.int x7), .val (.int x9), .val (.int x11), .val (.int x13), .val (.int x15), .val (.int x17), .val (.int x19), .val (.int x21), .val (.ref r22), .unset] [(.int (1 : Int32)), (.int ((F4 (1 : Int32) x11 p5) + (F4 (0 : Int32) x19 p5)))]))
    refine Done.step (fun t k => XS.iconst X29.here hx rfl (hb hby at_144) k) ?_
    show Done p e below s _ _ _ (T29.setTop (mkF m 145 #[.val (.int p1), .val (.int p2), .val (.int p3), .val (.int p4), .val (.int p5), .val (.int p6), .val (.int (1 : Int32)), .val (.int x3), .val (.int x5), .val (.int x7), .val (.int x9), .val (.int x11), .val (.int x13), .val (.int x15), .val (.int x17), .val (.int x19), .val (.int x21), .val (.ref r22), .unset] [(.int (2 : Int32)), (.int (1 : Int32)), (.int ((F4 (1 : Int32) x11 p5) + (F4 (0 : Int32) x19 p5)))]))
    refine Done.step (fun t k => XS.icmpYes X29.here hx rfl (pc0 := 145) (pc' := 152) rfl (hb hby at_145) rfl (flt (by decide)).2.2.2 (by decide) (by decide) k) ?_
    show Done p e below s _ _ _ (T29.setTop (mkF m 152 #[.val (.int p1), .val (.int p2), .val (.int p3), .val (.int p4), .val (.int p5), .val (.int p6), .val (.int (1 : Int32)), .val (.int x3), .val (.int x5), .val (.int x7), .val (.int x9), .val (.int x11), .val (.int x13), .val (.int x15), .val (.int x17), .val (.int x19), .val (.int x21), .val (.ref r22), .unset] [(.int ((F4 (1 : Int32) x11 p5) + (F4 (0 : Int32) x19 p5)))]))
    refine Done.step (fun t k => XS.iconst X29.here hx rfl (hb hby at_152) k) ?_
    show Done p e below s _ _ _ (T29.setTop (mkF m 153 #[.val (.int p1), .val (.int p2), .val (.int p3), .val (.int p4), .val (.int p5), .val (.int p6), .val (.int (1 : Int32)), .val (.int x3), .val (.int x5), .val (.int x7), .val (.int x9), .val (.int x11), .val (.int x13), .val (.int x15), .val (.int x17), .val (.int x19), .val (.int x21), .val (.ref r22), .unset] [(.int (0 : Int32)), (.int ((F4 (1 : Int32) x11 p5) + (F4 (0 : Int32) x19 p5)))]))
    refine Done.step (fun t k => XS.iload X29.here hx rfl (hb hby at_153) rfl k) ?_
    show Done p e below s _ _ _ (T29.setTop (mkF m 155 #[.val (.int p1), .val (.int p2), .val (.int p3), .val (.int p4), .val (.int p5), .val (.int p6), .val (.int (1 : Int32)), .val (.int x3), .val (.int x5), .val (.int x7), .val (.int x9), .val (.int x11), .val (.int x13), .val (.int x15), .val (.int x17), .val (.int x19), .val (.int x21), .val (.ref r22), .unset] [(.int x21), (.int (0 : Int32)), (.int ((F4 (1 : Int32) x11 p5) + (F4 (0 : Int32) x19 p5)))]))
    refine Done.step (fun t k => XS.iload X29.here hx rfl (hb hby at_155) rfl k) ?_
    show Done p e below s _ _ _ (T29.setTop (mkF m 157 #[.val (.int p1), .val (.int p2), .val (.int p3), .val (.int p4), .val (.int p5), .val (.int p6), .val (.int (1 : Int32)), .val (.int x3), .val (.int x5), .val (.int x7), .val (.int x9), .val (.int x11), .val (.int x13), .val (.int x15), .val (.int x17), .val (.int x19), .val (.int x21), .val (.ref r22), .unset] [(.int p5), (.int x21), (.int (0 : Int32)), (.int ((F4 (1 : Int32) x11 p5) + (F4 (0 : Int32) x19 p5)))]))
    obtain ⟨v30, _, ⟨T30, L30, k30, n30⟩, -, X30, ⟨Lc30, hQ30, l30, y30, z30⟩, st30⟩ := Jvm.LawKit.callS X29 hx (y := (⟨"com/example/ruled_ledger/ruledledger/rules/SuperclassForestStartAbovePinLaw", "le", "(ZII)I"⟩ : MethodName)) hown (mvT hZ (hw _ (List.mem_of_getElem? (i := 12) rfl))) (mvT hZ (hw _ (List.mem_of_getElem? (i := 13) rfl))) (mvT hZ (hw _ (List.mem_of_getElem? (i := 9) rfl))) (mvT hZ (hw _ (List.mem_of_getElem? (i := 14) rfl))) (by decide) (backOf (W := 1) (rm4 l Z a0 hw [] (0 : Int32) x21 p5 T22.heap n0 Zk22 ) hZ (hw _ (List.mem_of_getElem? (i := 14) rfl)) (hw _ (List.mem_of_getElem? (i := 9) rfl)) (by decide) (by decide)) (g := (mkF m 157 #[.val (.int p1), .val (.int p2), .val (.int p3), .val (.int p4), .val (.int p5), .val (.int p6), .val (.int (1 : Int32)), .val (.int x3), .val (.int x5), .val (.int x7), .val (.int x9), .val (.int x11), .val (.int x13), .val (.int x15), .val (.int x17), .val (.int x19), .val (.int x21), .val (.ref r22), .unset] [(.int p5), (.int x21), (.int (0 : Int32)), (.int ((F4 (1 : Int32) x11 p5) + (F4 (0 : Int32) x19 p5)))])) rfl (by rw [hml]; rfl) (argsL := [(.int (0 : Int32)), (.int x21), (.int p5)]) (rest := [(.int ((F4 (1 : Int32) x11 p5) + (F4 (0 : Int32) x19 p5)))]) (lenOf pd_2 rfl) rfl (by show 2 * 0 + _ ≤ _; exact Nat.le_of_eq rfl) (hb hby at_157) (fun _ _ => ⟨rfl, e29, (by decide : 1 + 0 ≤ _), (by decide : 4 + 0 ≤ _)⟩)
    dsimp only [Pt.U, Pt.locs, Pt.cells, Pt.slots] at X30 l30 y30 z30 st30 hQ30
    subst l30 y30 z30
    refine Done.step st30 ?_
    obtain ⟨rfl, N30q, e30⟩ := hQ30
    have N30 := Fr.app N29 N30q
    show Done p e below s _ _ _ (T30.setTop (mkF m 160 #[.val (.int p1), .val (.int p2), .val (.int p3), .val (.int p4), .val (.int p5), .val (.int p6), .val (.int (1 : Int32)), .val (.int x3), .val (.int x5), .val (.int x7), .val (.int x9), .val (.int x11), .val (.int x13), .val (.int x15), .val (.int x17), .val (.int x19), .val (.int x21), .val (.ref r22), .unset] [(.int (F4 (0 : Int32) x21 p5)), (.int ((F4 (1 : Int32) x11 p5) + (F4 (0 : Int32) x19 p5)))]))
    refine Done.step (fun t k => XS.iadd X30.here hx rfl (hb hby at_160) rfl k) ?_
    show Done p e below s _ _ _ (T30.setTop (mkF m 161 #[.val (.int p1), .val (.int p2), .val (.int p3), .val (.int p4), .val (.int p5), .val (.int p6), .val (.int (1 : Int32)), .val (.int x3), .val (.int x5), .val (.int x7), .val (.int x9), .val (.int x11), .val (.int x13), .val (.int x15), .val (.int x17), .val (.int x19), .val (.int x21), .val (.ref r22), .unset] [(.int (((F4 (1 : Int32) x11 p5) + (F4 (0 : Int32) x19 p5)) + (F4 (0 : Int32) x21 p5)))]))
    refine Done.step (fun t k => XS.iload X30.here hx rfl (hb hby at_161) rfl k) ?_
    show Done p e below s _ _ _ (T30.setTop (mkF m 163 #[.val (.int p1), .val (.int p2), .val (.int p3), .val (.int p4), .val (.int p5), .val (.int p6), .val (.int (1 : Int32)), .val (.int x3), .val (.int x5), .val (.int x7), .val (.int x9), .val (.int x11), .val (.int x13), .val (.int x15), .val (.int x17), .val (.int x19), .val (.int x21), .val (.ref r22), .unset] [(.int (1 : Int32)), (.int (((F4 (1 : Int32) x11 p5) + (F4 (0 : Int32) x19 p5)) + (F4 (0 : Int32) x21 p5)))]))
    refine Done.step (fun t k => XS.iconst X30.here hx rfl (hb hby at_163) k) ?_
    show Done p e below s _ _ _ (T30.setTop (mkF m 164 #[.val (.int p1), .val (.int p2), .val (.int p3), .val (.int p4), .val (.int p5), .val (.int p6), .val (.int (1 : Int32)), .val (.int x3), .val (.int x5), .val (.int x7), .val (.int x9), .val (.int x11), .val (.int x13), .val (.int x15), .val (.int x17), .val (.int x19), .val (.int x21), .val (.ref r22), .unset] [(.int (3 : Int32)), (.int (1 : Int32)), (.int (((F4 (1 : Int32) x11 p5) + (F4 (0 : Int32) x19 p5)) + (F4 (0 : Int32) x21 p5)))]))
    refine Done.step (fun t k => XS.icmpYes X30.here hx rfl (pc0 := 164) (pc' := 171) rfl (hb hby at_164) rfl (flt (by decide)).2.2.2 (by decide) (by decide) k) ?_
    show Done p e below s _ _ _ (T30.setTop (mkF m 171 #[.val (.int p1), .val (.int p2), .val (.int p3), .val (.int p4), .val (.int p5), .val (.int p6), .val (.int (1 : Int32)), .val (.int x3), .val (.int x5), .val (.int x7), .val (.int x9), .val (.int x11), .val (.int x13), .val (.int x15), .val (.int x17), .val (.int x19), .val (.int x21), .val (.ref r22), .unset] [(.int (((F4 (1 : Int32) x11 p5) + (F4 (0 : Int32) x19 p5)) + (F4 (0 : Int32) x21 p5)))]))
    refine Done.step (fun t k => XS.iconst X30.here hx rfl (hb hby at_171) k) ?_
    show Done p e below s _ _ _ (T30.setTop (mkF m 172 #[.val (.int p1), .val (.int p2), .val (.int p3), .val (.int p4), .val (.int p5), .val (.int p6), .val (.int (1 : Int32)), .val (.int x3), .val (.int x5), .val (.int x7), .val (.int x9), .val (.int x11), .val (.int x13), .val (.int x15), .val (.int x17), .val (.int x19), .val (.int x21), .val (.ref r22), .unset] [(.int (0 : Int32)), (.int (((F4 (1 : Int32) x11 p5) + (F4 (0 : Int32) x19 p5)) + (F4 (0 : Int32) x21 p5)))]))
    refine Done.step (fun t k => XS.iload X30.here hx rfl (hb hby at_172) rfl k) ?_
    show Done p e below s _ _ _ (T30.setTop (mkF m 174 #[.val (.int p1), .val (.int p2), .val (.int p3), .val (.int p4), .val (.int p5), .val (.int p6), .val (.int (1 : Int32)), .val (.int x3), .val (.int x5), .val (.int x7), .val (.int x9), .val (.int x11), .val (.int x13), .val (.int x15), .val (.int x17), .val (.int x19), .val (.int x21), .val (.ref r22), .unset] [(.int x17), (.int (0 : Int32)), (.int (((F4 (1 : Int32) x11 p5) + (F4 (0 : Int32) x19 p5)) + (F4 (0 : Int32) x21 p5)))]))
    refine Done.step (fun t k => XS.iload X30.here hx rfl (hb hby at_174) rfl k) ?_
    show Done p e below s _ _ _ (T30.setTop (mkF m 176 #[.val (.int p1), .val (.int p2), .val (.int p3), .val (.int p4), .val (.int p5), .val (.int p6), .val (.int (1 : Int32)), .val (.int x3), .val (.int x5), .val (.int x7), .val (.int x9), .val (.int x11), .val (.int x13), .val (.int x15), .val (.int x17), .val (.int x19), .val (.int x21), .val (.ref r22), .unset] [(.int p5), (.int x17), (.int (0 : Int32)), (.int (((F4 (1 : Int32) x11 p5) + (F4 (0 : Int32) x19 p5)) + (F4 (0 : Int32) x21 p5)))]))
    obtain ⟨v31, _, ⟨T31, L31, k31, n31⟩, -, X31, ⟨Lc31, hQ31, l31, y31, z31⟩, st31⟩ := Jvm.LawKit.callS X30 hx (y := (⟨"com/example/ruled_ledger/ruledledger/rules/SuperclassForestStartAbovePinLaw", "le", "(ZII)I"⟩ : MethodName)) hown (mvT hZ (hw _ (List.mem_of_getElem? (i := 12) rfl))) (mvT hZ (hw _ (List.mem_of_getElem? (i := 13) rfl))) (mvT hZ (hw _ (List.mem_of_getElem? (i := 9) rfl))) (mvT hZ (hw _ (List.mem_of_getElem? (i := 14) rfl))) (by decide) (backOf (W := 1) (rm4 l Z a0 hw [] (0 : Int32) x17 p5 T22.heap n0 Zk22 ) hZ (hw _ (List.mem_of_getElem? (i := 14) rfl)) (hw _ (List.mem_of_getElem? (i := 9) rfl)) (by decide) (by decide)) (g := (mkF m 176 #[.val (.int p1), .val (.int p2), .val (.int p3), .val (.int p4), .val (.int p5), .val (.int p6), .val (.int (1 : Int32)), .val (.int x3), .val (.int x5), .val (.int x7), .val (.int x9), .val (.int x11), .val (.int x13), .val (.int x15), .val (.int x17), .val (.int x19), .val (.int x21), .val (.ref r22), .unset] [(.int p5), (.int x17), (.int (0 : Int32)), (.int (((F4 (1 : Int32) x11 p5) + (F4 (0 : Int32) x19 p5)) + (F4 (0 : Int32) x21 p5)))])) rfl (by rw [hml]; rfl) (argsL := [(.int (0 : Int32)), (.int x17), (.int p5)]) (rest := [(.int (((F4 (1 : Int32) x11 p5) + (F4 (0 : Int32) x19 p5)) + (F4 (0 : Int32) x21 p5)))]) (lenOf pd_2 rfl) rfl (by show 2 * 0 + _ ≤ _; exact Nat.le_of_eq rfl) (hb hby at_176) (fun _ _ => ⟨rfl, e30, (by decide : 1 + 0 ≤ _), (by decide : 4 + 0 ≤ _)⟩)
    dsimp only [Pt.U, Pt.locs, Pt.cells, Pt.slots] at X31 l31 y31 z31 st31 hQ31
    subst l31 y31 z31
    refine Done.step st31 ?_
    obtain ⟨rfl, N31q, e31⟩ := hQ31
    have N31 := Fr.app N30 N31q
    show Done p e below s _ _ _ (T31.setTop (mkF m 179 #[.val (.int p1), .val (.int p2), .val (.int p3), .val (.int p4), .val (.int p5), .val (.int p6), .val (.int (1 : Int32)), .val (.int x3), .val (.int x5), .val (.int x7), .val (.int x9), .val (.int x11), .val (.int x13), .val (.int x15), .val (.int x17), .val (.int x19), .val (.int x21), .val (.ref r22), .unset] [(.int (F4 (0 : Int32) x17 p5)), (.int (((F4 (1 : Int32) x11 p5) + (F4 (0 : Int32) x19 p5)) + (F4 (0 : Int32) x21 p5)))]))
    refine Done.step (fun t k => XS.iadd X31.here hx rfl (hb hby at_179) rfl k) ?_
    show Done p e below s _ _ _ (T31.setTop (mkF m 180 #[.val (.int p1), .val (.int p2), .val (.int p3), .val (.int p4), .val (.int p5), .val (.int p6), .val (.int (1 : Int32)), .val (.int x3), .val (.int x5), .val (.int x7), .val (.int x9), .val (.int x11), .val (.int x13), .val (.int x15), .val (.int x17), .val (.int x19), .val (.int x21), .val (.ref r22), .unset] [(.int ((((F4 (1 : Int32) x11 p5) + (F4 (0 : Int32) x19 p5)) + (F4 (0 : Int32) x21 p5)) + (F4 (0 : Int32) x17 p5)))]))
    refine Done.step (fun t k => XS.istore X31.here hx rfl (hb hby at_180) rfl (l' := #[.val (.int p1), .val (.int p2), .val (.int p3), .val (.int p4), .val (.int p5), .val (.int p6), .val (.int (1 : Int32)), .val (.int x3), .val (.int x5), .val (.int x7), .val (.int x9), .val (.int x11), .val (.int x13), .val (.int x15), .val (.int x17), .val (.int x19), .val (.int x21), .val (.ref r22), .val (.int ((((F4 (1 : Int32) x11 p5) + (F4 (0 : Int32) x19 p5)) + (F4 (0 : Int32) x21 p5)) + (F4 (0 : Int32) x17 p5)))]) rfl k) ?_
    show Done p e below s _ _ _ (T31.setTop (mkF m 182 #[.val (.int p1), .val (.int p2), .val (.int p3), .val (.int p4), .val (.int p5), .val (.int p6), .val (.int (1 : Int32)), .val (.int x3), .val (.int x5), .val (.int x7), .val (.int x9), .val (.int x11), .val (.int x13), .val (.int x15), .val (.int x17), .val (.int x19), .val (.int x21), .val (.ref r22), .val (.int ((((F4 (1 : Int32) x11 p5) + (F4 (0 : Int32) x19 p5)) + (F4 (0 : Int32) x21 p5)) + (F4 (0 : Int32) x17 p5)))] []))
    refine Done.step (fun t k => XS.aload X31.here hx rfl (hb hby at_182) rfl rfl k) ?_
    show Done p e below s _ _ _ (T31.setTop (mkF m 184 #[.val (.int p1), .val (.int p2), .val (.int p3), .val (.int p4), .val (.int p5), .val (.int p6), .val (.int (1 : Int32)), .val (.int x3), .val (.int x5), .val (.int x7), .val (.int x9), .val (.int x11), .val (.int x13), .val (.int x15), .val (.int x17), .val (.int x19), .val (.int x21), .val (.ref r22), .val (.int ((((F4 (1 : Int32) x11 p5) + (F4 (0 : Int32) x19 p5)) + (F4 (0 : Int32) x21 p5)) + (F4 (0 : Int32) x17 p5)))] [(.ref r22)]))
    refine Done.step (fun t k => XS.iload X31.here hx rfl (hb hby at_184) rfl k) ?_
    show Done p e below s _ _ _ (T31.setTop (mkF m 186 #[.val (.int p1), .val (.int p2), .val (.int p3), .val (.int p4), .val (.int p5), .val (.int p6), .val (.int (1 : Int32)), .val (.int x3), .val (.int x5), .val (.int x7), .val (.int x9), .val (.int x11), .val (.int x13), .val (.int x15), .val (.int x17), .val (.int x19), .val (.int x21), .val (.ref r22), .val (.int ((((F4 (1 : Int32) x11 p5) + (F4 (0 : Int32) x19 p5)) + (F4 (0 : Int32) x21 p5)) + (F4 (0 : Int32) x17 p5)))] [(.int p5), (.ref r22)]))
    obtain ⟨v32, _, ⟨T32, L32, k32, n32⟩, -, X32, ⟨Lc32, hQ32, l32, y32, z32⟩, st32⟩ := Jvm.LawKit.callS X31 hx (y := (⟨"com/example/ruled_ledger/ruledledger/rules/SuperclassForest", "startAbove", "([II)I"⟩ : MethodName)) hown (mvT hZ (hw _ (List.mem_of_getElem? (i := 15) rfl))) (mvT hZ (hw _ (List.mem_of_getElem? (i := 16) rfl))) (mvT hZ (hw _ (List.mem_of_getElem? (i := 17) rfl))) (mvT hZ (hw _ (List.mem_of_getElem? (i := 18) rfl))) (by decide) (backOf (W := 0) (rm5 l Z a0 hw [] r22 p5 (MK (1 : Int32) x11 x19 x21 x17) T22.heap n0 Zk22 x22 (own_asc1 _ _ _ _ hsrt) (Nat.le_of_ble_eq_true rfl)) hZ (hw _ (List.mem_of_getElem? (i := 18) rfl)) (hw _ (List.mem_of_getElem? (i := 17) rfl)) (by decide) (by decide)) (g := (mkF m 186 #[.val (.int p1), .val (.int p2), .val (.int p3), .val (.int p4), .val (.int p5), .val (.int p6), .val (.int (1 : Int32)), .val (.int x3), .val (.int x5), .val (.int x7), .val (.int x9), .val (.int x11), .val (.int x13), .val (.int x15), .val (.int x17), .val (.int x19), .val (.int x21), .val (.ref r22), .val (.int ((((F4 (1 : Int32) x11 p5) + (F4 (0 : Int32) x19 p5)) + (F4 (0 : Int32) x21 p5)) + (F4 (0 : Int32) x17 p5)))] [(.int p5), (.ref r22)])) rfl (by rw [hml]; rfl) (argsL := [(.ref r22), (.int p5)]) (rest := []) (lenOf pd_3 rfl) rfl (by show 2 * 0 + _ ≤ _; exact Nat.le_of_eq rfl) (hb hby at_186) (fun _ _ => ⟨rfl, e31, (by decide : 1 + 0 ≤ _), (by decide : 4 + 0 ≤ _)⟩)
    dsimp only [Pt.U, Pt.locs, Pt.cells, Pt.slots] at X32 l32 y32 z32 st32 hQ32
    subst l32 y32 z32
    refine Done.step st32 ?_
    obtain ⟨⟨kk, rfl, hup⟩, N32q, e32⟩ := hQ32
    have N32 := Fr.app N31 N32q
    show Done p e below s _ _ _ (T32.setTop (mkF m 189 #[.val (.int p1), .val (.int p2), .val (.int p3), .val (.int p4), .val (.int p5), .val (.int p6), .val (.int (1 : Int32)), .val (.int x3), .val (.int x5), .val (.int x7), .val (.int x9), .val (.int x11), .val (.int x13), .val (.int x15), .val (.int x17), .val (.int x19), .val (.int x21), .val (.ref r22), .val (.int ((((F4 (1 : Int32) x11 p5) + (F4 (0 : Int32) x19 p5)) + (F4 (0 : Int32) x21 p5)) + (F4 (0 : Int32) x17 p5)))] [(.int kk)]))
    refine Done.step (fun t k => XS.iload X32.here hx rfl (hb hby at_189) rfl k) ?_
    show Done p e below s _ _ _ (T32.setTop (mkF m 191 #[.val (.int p1), .val (.int p2), .val (.int p3), .val (.int p4), .val (.int p5), .val (.int p6), .val (.int (1 : Int32)), .val (.int x3), .val (.int x5), .val (.int x7), .val (.int x9), .val (.int x11), .val (.int x13), .val (.int x15), .val (.int x17), .val (.int x19), .val (.int x21), .val (.ref r22), .val (.int ((((F4 (1 : Int32) x11 p5) + (F4 (0 : Int32) x19 p5)) + (F4 (0 : Int32) x21 p5)) + (F4 (0 : Int32) x17 p5)))] [(.int ((((F4 (1 : Int32) x11 p5) + (F4 (0 : Int32) x19 p5)) + (F4 (0 : Int32) x21 p5)) + (F4 (0 : Int32) x17 p5))), (.int kk)]))
    refine Done.step (fun t k => XS.icmpNo X32.here hx rfl (hb hby at_191) rfl (teq (own_cnt1 x11 x19 x21 x17 p5 kk hup)).2 k) ?_
    show Done p e below s _ _ _ (T32.setTop (mkF m 194 #[.val (.int p1), .val (.int p2), .val (.int p3), .val (.int p4), .val (.int p5), .val (.int p6), .val (.int (1 : Int32)), .val (.int x3), .val (.int x5), .val (.int x7), .val (.int x9), .val (.int x11), .val (.int x13), .val (.int x15), .val (.int x17), .val (.int x19), .val (.int x21), .val (.ref r22), .val (.int ((((F4 (1 : Int32) x11 p5) + (F4 (0 : Int32) x19 p5)) + (F4 (0 : Int32) x21 p5)) + (F4 (0 : Int32) x17 p5)))] []))
    refine Done.step (fun t k => XS.iconst X32.here hx rfl (hb hby at_194) k) ?_
    show Done p e below s _ _ _ (T32.setTop (mkF m 195 #[.val (.int p1), .val (.int p2), .val (.int p3), .val (.int p4), .val (.int p5), .val (.int p6), .val (.int (1 : Int32)), .val (.int x3), .val (.int x5), .val (.int x7), .val (.int x9), .val (.int x11), .val (.int x13), .val (.int x15), .val (.int x17), .val (.int x19), .val (.int x21), .val (.ref r22), .val (.int ((((F4 (1 : Int32) x11 p5) + (F4 (0 : Int32) x19 p5)) + (F4 (0 : Int32) x21 p5)) + (F4 (0 : Int32) x17 p5)))] [(.int (1 : Int32))]))
    refine Done.step (fun t k => XS.goto X32.here hx rfl (pc0 := 195) (pc' := 199) rfl (hb hby at_195) (by decide) (by decide) k) ?_
    show Done p e below s _ _ _ (T32.setTop (mkF m 199 #[.val (.int p1), .val (.int p2), .val (.int p3), .val (.int p4), .val (.int p5), .val (.int p6), .val (.int (1 : Int32)), .val (.int x3), .val (.int x5), .val (.int x7), .val (.int x9), .val (.int x11), .val (.int x13), .val (.int x15), .val (.int x17), .val (.int x19), .val (.int x21), .val (.ref r22), .val (.int ((((F4 (1 : Int32) x11 p5) + (F4 (0 : Int32) x19 p5)) + (F4 (0 : Int32) x21 p5)) + (F4 (0 : Int32) x17 p5)))] [(.int (1 : Int32))]))
    exact Done.narr X32 hx hlk hret (by simp) (hb hby at_199) (by decide) (by decide) ⟨rfl, N32⟩
  · show Done p e below s _ _ _ (T22.setTop (mkF m 106 #[.val (.int p1), .val (.int p2), .val (.int p3), .val (.int p4), .val (.int p5), .val (.int p6), .val (.int (2 : Int32)), .val (.int x3), .val (.int x5), .val (.int x7), .val (.int x9), .val (.int x11), .val (.int x13), .val (.int x15), .val (.int x17), .val (.int x19), .val (.int x21), .val (.ref r22), .unset] []))
    refine Done.step (fun t k => XS.iload X22.here hx rfl (hb hby at_106) rfl k) ?_
    show Done p e below s _ _ _ (T22.setTop (mkF m 108 #[.val (.int p1), .val (.int p2), .val (.int p3), .val (.int p4), .val (.int p5), .val (.int p6), .val (.int (2 : Int32)), .val (.int x3), .val (.int x5), .val (.int x7), .val (.int x9), .val (.int x11), .val (.int x13), .val (.int x15), .val (.int x17), .val (.int x19), .val (.int x21), .val (.ref r22), .unset] [(.int (2 : Int32))]))
    refine Done.step (fun t k => XS.ifNo X22.here hx rfl (hb hby at_108) rfl ((if0 _ _).trans (tlt (by decide)).2.2.2) k) ?_
    show Done p e below s _ _ _ (T22.setTop (mkF m 111 #[.val (.int p1), .val (.int p2), .val (.int p3), .val (.int p4), .val (.int p5), .val (.int p6), .val (.int (2 : Int32)), .val (.int x3), .val (.int x5), .val (.int x7), .val (.int x9), .val (.int x11), .val (.int x13), .val (.int x15), .val (.int x17), .val (.int x19), .val (.int x21), .val (.ref r22), .unset] []))
    refine Done.step (fun t k => XS.iconst X22.here hx rfl (hb hby at_111) k) ?_
    show Done p e below s _ _ _ (T22.setTop (mkF m 112 #[.val (.int p1), .val (.int p2), .val (.int p3), .val (.int p4), .val (.int p5), .val (.int p6), .val (.int (2 : Int32)), .val (.int x3), .val (.int x5), .val (.int x7), .val (.int x9), .val (.int x11), .val (.int x13), .val (.int x15), .val (.int x17), .val (.int x19), .val (.int x21), .val (.ref r22), .unset] [(.int (1 : Int32))]))
    refine Done.step (fun t k => XS.goto X22.here hx rfl (pc0 := 112) (pc' := 116) rfl (hb hby at_112) (by decide) (by decide) k) ?_
    show Done p e below s _ _ _ (T22.setTop (mkF m 116 #[.val (.int p1), .val (.int p2), .val (.int p3), .val (.int p4), .val (.int p5), .val (.int p6), .val (.int (2 : Int32)), .val (.int x3), .val (.int x5), .val (.int x7), .val (.int x9), .val (.int x11), .val (.int x13), .val (.int x15), .val (.int x17), .val (.int x19), .val (.int x21), .val (.ref r22), .unset] [(.int (1 : Int32))]))
    refine Done.step (fun t k => XS.iload X22.here hx rfl (hb hby at_116) rfl k) ?_
    show Done p e below s _ _ _ (T22.setTop (mkF m 118 #[.val (.int p1), .val (.int p2), .val (.int p3), .val (.int p4), .val (.int p5), .val (.int p6), .val (.int (2 : Int32)), .val (.int x3), .val (.int x5), .val (.int x7), .val (.int x9), .val (.int x11), .val (.int x13), .val (.int x15), .val (.int x17), .val (.int x19), .val (.int x21), .val (.ref r22), .unset] [(.int x11), (.int (1 : Int32))]))
    refine Done.step (fun t k => XS.iload X22.here hx rfl (hb hby at_118) rfl k) ?_
    show Done p e below s _ _ _ (T22.setTop (mkF m 120 #[.val (.int p1), .val (.int p2), .val (.int p3), .val (.int p4), .val (.int p5), .val (.int p6), .val (.int (2 : Int32)), .val (.int x3), .val (.int x5), .val (.int x7), .val (.int x9), .val (.int x11), .val (.int x13), .val (.int x15), .val (.int x17), .val (.int x19), .val (.int x21), .val (.ref r22), .unset] [(.int p5), (.int x11), (.int (1 : Int32))]))
    obtain ⟨v33, _, ⟨T33, L33, k33, n33⟩, -, X33, ⟨Lc33, hQ33, l33, y33, z33⟩, st33⟩ := Jvm.LawKit.callS X22 hx (y := (⟨"com/example/ruled_ledger/ruledledger/rules/SuperclassForestStartAbovePinLaw", "le", "(ZII)I"⟩ : MethodName)) hown (mvT hZ (hw _ (List.mem_of_getElem? (i := 12) rfl))) (mvT hZ (hw _ (List.mem_of_getElem? (i := 13) rfl))) (mvT hZ (hw _ (List.mem_of_getElem? (i := 9) rfl))) (mvT hZ (hw _ (List.mem_of_getElem? (i := 14) rfl))) (by decide) (backOf (W := 0) (rm4 l Z a0 hw [] (1 : Int32) x11 p5 T22.heap n0 Zk22 ) hZ (hw _ (List.mem_of_getElem? (i := 14) rfl)) (hw _ (List.mem_of_getElem? (i := 9) rfl)) (by decide) (by decide)) (g := (mkF m 120 #[.val (.int p1), .val (.int p2), .val (.int p3), .val (.int p4), .val (.int p5), .val (.int p6), .val (.int (2 : Int32)), .val (.int x3), .val (.int x5), .val (.int x7), .val (.int x9), .val (.int x11), .val (.int x13), .val (.int x15), .val (.int x17), .val (.int x19), .val (.int x21), .val (.ref r22), .unset] [(.int p5), (.int x11), (.int (1 : Int32))])) rfl (by rw [hml]; rfl) (argsL := [(.int (1 : Int32)), (.int x11), (.int p5)]) (rest := []) (lenOf pd_2 rfl) rfl (by show 2 * 0 + _ ≤ _; exact Nat.le_of_eq rfl) (hb hby at_120) (fun _ _ => ⟨rfl, rfl, (by decide : 1 + 0 ≤ _), (by decide : 4 + 0 ≤ _)⟩)
    dsimp only [Pt.U, Pt.locs, Pt.cells, Pt.slots] at X33 l33 y33 z33 st33 hQ33
    subst l33 y33 z33
    refine Done.step st33 ?_
    obtain ⟨rfl, N33q, e33⟩ := hQ33
    have N33 := Fr.app N22 N33q
    show Done p e below s _ _ _ (T33.setTop (mkF m 123 #[.val (.int p1), .val (.int p2), .val (.int p3), .val (.int p4), .val (.int p5), .val (.int p6), .val (.int (2 : Int32)), .val (.int x3), .val (.int x5), .val (.int x7), .val (.int x9), .val (.int x11), .val (.int x13), .val (.int x15), .val (.int x17), .val (.int x19), .val (.int x21), .val (.ref r22), .unset] [(.int (F4 (1 : Int32) x11 p5))]))
    refine Done.step (fun t k => XS.iload X33.here hx rfl (hb hby at_123) rfl k) ?_
    show Done p e below s _ _ _ (T33.setTop (mkF m 125 #[.val (.int p1), .val (.int p2), .val (.int p3), .val (.int p4), .val (.int p5), .val (.int p6), .val (.int (2 : Int32)), .val (.int x3), .val (.int x5), .val (.int x7), .val (.int x9), .val (.int x11), .val (.int x13), .val (.int x15), .val (.int x17), .val (.int x19), .val (.int x21), .val (.ref r22), .unset] [(.int (2 : Int32)), (.int (F4 (1 : Int32) x11 p5))]))
    refine Done.step (fun t k => XS.iconst X33.here hx rfl (hb hby at_125) k) ?_
    show Done p e below s _ _ _ (T33.setTop (mkF m 126 #[.val (.int p1), .val (.int p2), .val (.int p3), .val (.int p4), .val (.int p5), .val (.int p6), .val (.int (2 : Int32)), .val (.int x3), .val (.int x5), .val (.int x7), .val (.int x9), .val (.int x11), .val (.int x13), .val (.int x15), .val (.int x17), .val (.int x19), .val (.int x21), .val (.ref r22), .unset] [(.int (1 : Int32)), (.int (2 : Int32)), (.int (F4 (1 : Int32) x11 p5))]))
    refine Done.step (fun t k => XS.icmpNo X33.here hx rfl (hb hby at_126) rfl (tlt (by decide)).2.2.2 k) ?_
    show Done p e below s _ _ _ (T33.setTop (mkF m 129 #[.val (.int p1), .val (.int p2), .val (.int p3), .val (.int p4), .val (.int p5), .val (.int p6), .val (.int (2 : Int32)), .val (.int x3), .val (.int x5), .val (.int x7), .val (.int x9), .val (.int x11), .val (.int x13), .val (.int x15), .val (.int x17), .val (.int x19), .val (.int x21), .val (.ref r22), .unset] [(.int (F4 (1 : Int32) x11 p5))]))
    refine Done.step (fun t k => XS.iconst X33.here hx rfl (hb hby at_129) k) ?_
    show Done p e below s _ _ _ (T33.setTop (mkF m 130 #[.val (.int p1), .val (.int p2), .val (.int p3), .val (.int p4), .val (.int p5), .val (.int p6), .val (.int (2 : Int32)), .val (.int x3), .val (.int x5), .val (.int x7), .val (.int x9), .val (.int x11), .val (.int x13), .val (.int x15), .val (.int x17), .val (.int x19), .val (.int x21), .val (.ref r22), .unset] [(.int (1 : Int32)), (.int (F4 (1 : Int32) x11 p5))]))
    refine Done.step (fun t k => XS.goto X33.here hx rfl (pc0 := 130) (pc' := 134) rfl (hb hby at_130) (by decide) (by decide) k) ?_
    show Done p e below s _ _ _ (T33.setTop (mkF m 134 #[.val (.int p1), .val (.int p2), .val (.int p3), .val (.int p4), .val (.int p5), .val (.int p6), .val (.int (2 : Int32)), .val (.int x3), .val (.int x5), .val (.int x7), .val (.int x9), .val (.int x11), .val (.int x13), .val (.int x15), .val (.int x17), .val (.int x19), .val (.int x21), .val (.ref r22), .unset] [(.int (1 : Int32)), (.int (F4 (1 : Int32) x11 p5))]))
    refine Done.step (fun t k => XS.iload X33.here hx rfl (hb hby at_134) rfl k) ?_
    show Done p e below s _ _ _ (T33.setTop (mkF m 136 #[.val (.int p1), .val (.int p2), .val (.int p3), .val (.int p4), .val (.int p5), .val (.int p6), .val (.int (2 : Int32)), .val (.int x3), .val (.int x5), .val (.int x7), .val (.int x9), .val (.int x11), .val (.int x13), .val (.int x15), .val (.int x17), .val (.int x19), .val (.int x21), .val (.ref r22), .unset] [(.int x19), (.int (1 : Int32)), (.int (F4 (1 : Int32) x11 p5))]))
    refine Done.step (fun t k => XS.iload X33.here hx rfl (hb hby at_136) rfl k) ?_
    show Done p e below s _ _ _ (T33.setTop (mkF m 138 #[.val (.int p1), .val (.int p2), .val (.int p3), .val (.int p4), .val (.int p5), .val (.int p6), .val (.int (2 : Int32)), .val (.int x3), .val (.int x5), .val (.int x7), .val (.int x9), .val (.int x11), .val (.int x13), .val (.int x15), .val (.int x17), .val (.int x19), .val (.int x21), .val (.ref r22), .unset] [(.int p5), (.int x19), (.int (1 : Int32)), (.int (F4 (1 : Int32) x11 p5))]))
    obtain ⟨v34, _, ⟨T34, L34, k34, n34⟩, -, X34, ⟨Lc34, hQ34, l34, y34, z34⟩, st34⟩ := Jvm.LawKit.callS X33 hx (y := (⟨"com/example/ruled_ledger/ruledledger/rules/SuperclassForestStartAbovePinLaw", "le", "(ZII)I"⟩ : MethodName)) hown (mvT hZ (hw _ (List.mem_of_getElem? (i := 12) rfl))) (mvT hZ (hw _ (List.mem_of_getElem? (i := 13) rfl))) (mvT hZ (hw _ (List.mem_of_getElem? (i := 9) rfl))) (mvT hZ (hw _ (List.mem_of_getElem? (i := 14) rfl))) (by decide) (backOf (W := 1) (rm4 l Z a0 hw [] (1 : Int32) x19 p5 T22.heap n0 Zk22 ) hZ (hw _ (List.mem_of_getElem? (i := 14) rfl)) (hw _ (List.mem_of_getElem? (i := 9) rfl)) (by decide) (by decide)) (g := (mkF m 138 #[.val (.int p1), .val (.int p2), .val (.int p3), .val (.int p4), .val (.int p5), .val (.int p6), .val (.int (2 : Int32)), .val (.int x3), .val (.int x5), .val (.int x7), .val (.int x9), .val (.int x11), .val (.int x13), .val (.int x15), .val (.int x17), .val (.int x19), .val (.int x21), .val (.ref r22), .unset] [(.int p5), (.int x19), (.int (1 : Int32)), (.int (F4 (1 : Int32) x11 p5))])) rfl (by rw [hml]; rfl) (argsL := [(.int (1 : Int32)), (.int x19), (.int p5)]) (rest := [(.int (F4 (1 : Int32) x11 p5))]) (lenOf pd_2 rfl) rfl (by show 2 * 0 + _ ≤ _; exact Nat.le_of_eq rfl) (hb hby at_138) (fun _ _ => ⟨rfl, e33, (by decide : 1 + 0 ≤ _), (by decide : 4 + 0 ≤ _)⟩)
    dsimp only [Pt.U, Pt.locs, Pt.cells, Pt.slots] at X34 l34 y34 z34 st34 hQ34
    subst l34 y34 z34
    refine Done.step st34 ?_
    obtain ⟨rfl, N34q, e34⟩ := hQ34
    have N34 := Fr.app N33 N34q
    show Done p e below s _ _ _ (T34.setTop (mkF m 141 #[.val (.int p1), .val (.int p2), .val (.int p3), .val (.int p4), .val (.int p5), .val (.int p6), .val (.int (2 : Int32)), .val (.int x3), .val (.int x5), .val (.int x7), .val (.int x9), .val (.int x11), .val (.int x13), .val (.int x15), .val (.int x17), .val (.int x19), .val (.int x21), .val (.ref r22), .unset] [(.int (F4 (1 : Int32) x19 p5)), (.int (F4 (1 : Int32) x11 p5))]))
    refine Done.step (fun t k => XS.iadd X34.here hx rfl (hb hby at_141) rfl k) ?_
    show Done p e below s _ _ _ (T34.setTop (mkF m 142 #[.val (.int p1), .val (.int p2), .val (.int p3), .val (.int p4), .val (.int p5), .val (.int p6), .val (.int (2 : Int32)), .val (.int x3), .val (.int x5), .val (.int x7), .val (.int x9), .val (.int x11), .val (.int x13), .val (.int x15), .val (.int x17), .val (.int x19), .val (.int x21), .val (.ref r22), .unset] [(.int ((F4 (1 : Int32) x11 p5) + (F4 (1 : Int32) x19 p5)))]))
    refine Done.step (fun t k => XS.iload X34.here hx rfl (hb hby at_142) rfl k) ?_
    show Done p e below s _ _ _ (T34.setTop (mkF m 144 #[.val (.int p1), .val (.int p2), .val (.int p3), .val (.int p4), .val (.int p5), .val (.int p6), .val (.int (2 : Int32)), .val (.int x3), .val (.int x5), .val (.int x7), .val (.int x9), .val (.int x11), .val (.int x13), .val (.int x15), .val (.int x17), .val (.int x19), .val (.int x21), .val (.ref r22), .unset] [(.int (2 : Int32)), (.int ((F4 (1 : Int32) x11 p5) + (F4 (1 : Int32) x19 p5)))]))
    refine Done.step (fun t k => XS.iconst X34.here hx rfl (hb hby at_144) k) ?_
    show Done p e below s _ _ _ (T34.setTop (mkF m 145 #[.val (.int p1), .val (.int p2), .val (.int p3), .val (.int p4), .val (.int p5), .val (.int p6), .val (.int (2 : Int32)), .val (.int x3), .val (.int x5), .val (.int x7), .val (.int x9), .val (.int x11), .val (.int x13), .val (.int x15), .val (.int x17), .val (.int x19), .val (.int x21), .val (.ref r22), .unset] [(.int (2 : Int32)), (.int (2 : Int32)), (.int ((F4 (1 : Int32) x11 p5) + (F4 (1 : Int32) x19 p5)))]))
    refine Done.step (fun t k => XS.icmpYes X34.here hx rfl (pc0 := 145) (pc' := 152) rfl (hb hby at_145) rfl (flt (by decide)).2.2.2 (by decide) (by decide) k) ?_
    show Done p e below s _ _ _ (T34.setTop (mkF m 152 #[.val (.int p1), .val (.int p2), .val (.int p3), .val (.int p4), .val (.int p5), .val (.int p6), .val (.int (2 : Int32)), .val (.int x3), .val (.int x5), .val (.int x7), .val (.int x9), .val (.int x11), .val (.int x13), .val (.int x15), .val (.int x17), .val (.int x19), .val (.int x21), .val (.ref r22), .unset] [(.int ((F4 (1 : Int32) x11 p5) + (F4 (1 : Int32) x19 p5)))]))
    refine Done.step (fun t k => XS.iconst X34.here hx rfl (hb hby at_152) k) ?_
    show Done p e below s _ _ _ (T34.setTop (mkF m 153 #[.val (.int p1), .val (.int p2), .val (.int p3), .val (.int p4), .val (.int p5), .val (.int p6), .val (.int (2 : Int32)), .val (.int x3), .val (.int x5), .val (.int x7), .val (.int x9), .val (.int x11), .val (.int x13), .val (.int x15), .val (.int x17), .val (.int x19), .val (.int x21), .val (.ref r22), .unset] [(.int (0 : Int32)), (.int ((F4 (1 : Int32) x11 p5) + (F4 (1 : Int32) x19 p5)))]))
    refine Done.step (fun t k => XS.iload X34.here hx rfl (hb hby at_153) rfl k) ?_
    show Done p e below s _ _ _ (T34.setTop (mkF m 155 #[.val (.int p1), .val (.int p2), .val (.int p3), .val (.int p4), .val (.int p5), .val (.int p6), .val (.int (2 : Int32)), .val (.int x3), .val (.int x5), .val (.int x7), .val (.int x9), .val (.int x11), .val (.int x13), .val (.int x15), .val (.int x17), .val (.int x19), .val (.int x21), .val (.ref r22), .unset] [(.int x21), (.int (0 : Int32)), (.int ((F4 (1 : Int32) x11 p5) + (F4 (1 : Int32) x19 p5)))]))
    refine Done.step (fun t k => XS.iload X34.here hx rfl (hb hby at_155) rfl k) ?_
    show Done p e below s _ _ _ (T34.setTop (mkF m 157 #[.val (.int p1), .val (.int p2), .val (.int p3), .val (.int p4), .val (.int p5), .val (.int p6), .val (.int (2 : Int32)), .val (.int x3), .val (.int x5), .val (.int x7), .val (.int x9), .val (.int x11), .val (.int x13), .val (.int x15), .val (.int x17), .val (.int x19), .val (.int x21), .val (.ref r22), .unset] [(.int p5), (.int x21), (.int (0 : Int32)), (.int ((F4 (1 : Int32) x11 p5) + (F4 (1 : Int32) x19 p5)))]))
    obtain ⟨v35, _, ⟨T35, L35, k35, n35⟩, -, X35, ⟨Lc35, hQ35, l35, y35, z35⟩, st35⟩ := Jvm.LawKit.callS X34 hx (y := (⟨"com/example/ruled_ledger/ruledledger/rules/SuperclassForestStartAbovePinLaw", "le", "(ZII)I"⟩ : MethodName)) hown (mvT hZ (hw _ (List.mem_of_getElem? (i := 12) rfl))) (mvT hZ (hw _ (List.mem_of_getElem? (i := 13) rfl))) (mvT hZ (hw _ (List.mem_of_getElem? (i := 9) rfl))) (mvT hZ (hw _ (List.mem_of_getElem? (i := 14) rfl))) (by decide) (backOf (W := 1) (rm4 l Z a0 hw [] (0 : Int32) x21 p5 T22.heap n0 Zk22 ) hZ (hw _ (List.mem_of_getElem? (i := 14) rfl)) (hw _ (List.mem_of_getElem? (i := 9) rfl)) (by decide) (by decide)) (g := (mkF m 157 #[.val (.int p1), .val (.int p2), .val (.int p3), .val (.int p4), .val (.int p5), .val (.int p6), .val (.int (2 : Int32)), .val (.int x3), .val (.int x5), .val (.int x7), .val (.int x9), .val (.int x11), .val (.int x13), .val (.int x15), .val (.int x17), .val (.int x19), .val (.int x21), .val (.ref r22), .unset] [(.int p5), (.int x21), (.int (0 : Int32)), (.int ((F4 (1 : Int32) x11 p5) + (F4 (1 : Int32) x19 p5)))])) rfl (by rw [hml]; rfl) (argsL := [(.int (0 : Int32)), (.int x21), (.int p5)]) (rest := [(.int ((F4 (1 : Int32) x11 p5) + (F4 (1 : Int32) x19 p5)))]) (lenOf pd_2 rfl) rfl (by show 2 * 0 + _ ≤ _; exact Nat.le_of_eq rfl) (hb hby at_157) (fun _ _ => ⟨rfl, e34, (by decide : 1 + 0 ≤ _), (by decide : 4 + 0 ≤ _)⟩)
    dsimp only [Pt.U, Pt.locs, Pt.cells, Pt.slots] at X35 l35 y35 z35 st35 hQ35
    subst l35 y35 z35
    refine Done.step st35 ?_
    obtain ⟨rfl, N35q, e35⟩ := hQ35
    have N35 := Fr.app N34 N35q
    show Done p e below s _ _ _ (T35.setTop (mkF m 160 #[.val (.int p1), .val (.int p2), .val (.int p3), .val (.int p4), .val (.int p5), .val (.int p6), .val (.int (2 : Int32)), .val (.int x3), .val (.int x5), .val (.int x7), .val (.int x9), .val (.int x11), .val (.int x13), .val (.int x15), .val (.int x17), .val (.int x19), .val (.int x21), .val (.ref r22), .unset] [(.int (F4 (0 : Int32) x21 p5)), (.int ((F4 (1 : Int32) x11 p5) + (F4 (1 : Int32) x19 p5)))]))
    refine Done.step (fun t k => XS.iadd X35.here hx rfl (hb hby at_160) rfl k) ?_
    show Done p e below s _ _ _ (T35.setTop (mkF m 161 #[.val (.int p1), .val (.int p2), .val (.int p3), .val (.int p4), .val (.int p5), .val (.int p6), .val (.int (2 : Int32)), .val (.int x3), .val (.int x5), .val (.int x7), .val (.int x9), .val (.int x11), .val (.int x13), .val (.int x15), .val (.int x17), .val (.int x19), .val (.int x21), .val (.ref r22), .unset] [(.int (((F4 (1 : Int32) x11 p5) + (F4 (1 : Int32) x19 p5)) + (F4 (0 : Int32) x21 p5)))]))
    refine Done.step (fun t k => XS.iload X35.here hx rfl (hb hby at_161) rfl k) ?_
    show Done p e below s _ _ _ (T35.setTop (mkF m 163 #[.val (.int p1), .val (.int p2), .val (.int p3), .val (.int p4), .val (.int p5), .val (.int p6), .val (.int (2 : Int32)), .val (.int x3), .val (.int x5), .val (.int x7), .val (.int x9), .val (.int x11), .val (.int x13), .val (.int x15), .val (.int x17), .val (.int x19), .val (.int x21), .val (.ref r22), .unset] [(.int (2 : Int32)), (.int (((F4 (1 : Int32) x11 p5) + (F4 (1 : Int32) x19 p5)) + (F4 (0 : Int32) x21 p5)))]))
    refine Done.step (fun t k => XS.iconst X35.here hx rfl (hb hby at_163) k) ?_
    show Done p e below s _ _ _ (T35.setTop (mkF m 164 #[.val (.int p1), .val (.int p2), .val (.int p3), .val (.int p4), .val (.int p5), .val (.int p6), .val (.int (2 : Int32)), .val (.int x3), .val (.int x5), .val (.int x7), .val (.int x9), .val (.int x11), .val (.int x13), .val (.int x15), .val (.int x17), .val (.int x19), .val (.int x21), .val (.ref r22), .unset] [(.int (3 : Int32)), (.int (2 : Int32)), (.int (((F4 (1 : Int32) x11 p5) + (F4 (1 : Int32) x19 p5)) + (F4 (0 : Int32) x21 p5)))]))
    refine Done.step (fun t k => XS.icmpYes X35.here hx rfl (pc0 := 164) (pc' := 171) rfl (hb hby at_164) rfl (flt (by decide)).2.2.2 (by decide) (by decide) k) ?_
    show Done p e below s _ _ _ (T35.setTop (mkF m 171 #[.val (.int p1), .val (.int p2), .val (.int p3), .val (.int p4), .val (.int p5), .val (.int p6), .val (.int (2 : Int32)), .val (.int x3), .val (.int x5), .val (.int x7), .val (.int x9), .val (.int x11), .val (.int x13), .val (.int x15), .val (.int x17), .val (.int x19), .val (.int x21), .val (.ref r22), .unset] [(.int (((F4 (1 : Int32) x11 p5) + (F4 (1 : Int32) x19 p5)) + (F4 (0 : Int32) x21 p5)))]))
    refine Done.step (fun t k => XS.iconst X35.here hx rfl (hb hby at_171) k) ?_
    show Done p e below s _ _ _ (T35.setTop (mkF m 172 #[.val (.int p1), .val (.int p2), .val (.int p3), .val (.int p4), .val (.int p5), .val (.int p6), .val (.int (2 : Int32)), .val (.int x3), .val (.int x5), .val (.int x7), .val (.int x9), .val (.int x11), .val (.int x13), .val (.int x15), .val (.int x17), .val (.int x19), .val (.int x21), .val (.ref r22), .unset] [(.int (0 : Int32)), (.int (((F4 (1 : Int32) x11 p5) + (F4 (1 : Int32) x19 p5)) + (F4 (0 : Int32) x21 p5)))]))
    refine Done.step (fun t k => XS.iload X35.here hx rfl (hb hby at_172) rfl k) ?_
    show Done p e below s _ _ _ (T35.setTop (mkF m 174 #[.val (.int p1), .val (.int p2), .val (.int p3), .val (.int p4), .val (.int p5), .val (.int p6), .val (.int (2 : Int32)), .val (.int x3), .val (.int x5), .val (.int x7), .val (.int x9), .val (.int x11), .val (.int x13), .val (.int x15), .val (.int x17), .val (.int x19), .val (.int x21), .val (.ref r22), .unset] [(.int x17), (.int (0 : Int32)), (.int (((F4 (1 : Int32) x11 p5) + (F4 (1 : Int32) x19 p5)) + (F4 (0 : Int32) x21 p5)))]))
    refine Done.step (fun t k => XS.iload X35.here hx rfl (hb hby at_174) rfl k) ?_
    show Done p e below s _ _ _ (T35.setTop (mkF m 176 #[.val (.int p1), .val (.int p2), .val (.int p3), .val (.int p4), .val (.int p5), .val (.int p6), .val (.int (2 : Int32)), .val (.int x3), .val (.int x5), .val (.int x7), .val (.int x9), .val (.int x11), .val (.int x13), .val (.int x15), .val (.int x17), .val (.int x19), .val (.int x21), .val (.ref r22), .unset] [(.int p5), (.int x17), (.int (0 : Int32)), (.int (((F4 (1 : Int32) x11 p5) + (F4 (1 : Int32) x19 p5)) + (F4 (0 : Int32) x21 p5)))]))
    obtain ⟨v36, _, ⟨T36, L36, k36, n36⟩, -, X36, ⟨Lc36, hQ36, l36, y36, z36⟩, st36⟩ := Jvm.LawKit.callS X35 hx (y := (⟨"com/example/ruled_ledger/ruledledger/rules/SuperclassForestStartAbovePinLaw", "le", "(ZII)I"⟩ : MethodName)) hown (mvT hZ (hw _ (List.mem_of_getElem? (i := 12) rfl))) (mvT hZ (hw _ (List.mem_of_getElem? (i := 13) rfl))) (mvT hZ (hw _ (List.mem_of_getElem? (i := 9) rfl))) (mvT hZ (hw _ (List.mem_of_getElem? (i := 14) rfl))) (by decide) (backOf (W := 1) (rm4 l Z a0 hw [] (0 : Int32) x17 p5 T22.heap n0 Zk22 ) hZ (hw _ (List.mem_of_getElem? (i := 14) rfl)) (hw _ (List.mem_of_getElem? (i := 9) rfl)) (by decide) (by decide)) (g := (mkF m 176 #[.val (.int p1), .val (.int p2), .val (.int p3), .val (.int p4), .val (.int p5), .val (.int p6), .val (.int (2 : Int32)), .val (.int x3), .val (.int x5), .val (.int x7), .val (.int x9), .val (.int x11), .val (.int x13), .val (.int x15), .val (.int x17), .val (.int x19), .val (.int x21), .val (.ref r22), .unset] [(.int p5), (.int x17), (.int (0 : Int32)), (.int (((F4 (1 : Int32) x11 p5) + (F4 (1 : Int32) x19 p5)) + (F4 (0 : Int32) x21 p5)))])) rfl (by rw [hml]; rfl) (argsL := [(.int (0 : Int32)), (.int x17), (.int p5)]) (rest := [(.int (((F4 (1 : Int32) x11 p5) + (F4 (1 : Int32) x19 p5)) + (F4 (0 : Int32) x21 p5)))]) (lenOf pd_2 rfl) rfl (by show 2 * 0 + _ ≤ _; exact Nat.le_of_eq rfl) (hb hby at_176) (fun _ _ => ⟨rfl, e35, (by decide : 1 + 0 ≤ _), (by decide : 4 + 0 ≤ _)⟩)
    dsimp only [Pt.U, Pt.locs, Pt.cells, Pt.slots] at X36 l36 y36 z36 st36 hQ36
    subst l36 y36 z36
    refine Done.step st36 ?_
    obtain ⟨rfl, N36q, e36⟩ := hQ36
    have N36 := Fr.app N35 N36q
    show Done p e below s _ _ _ (T36.setTop (mkF m 179 #[.val (.int p1), .val (.int p2), .val (.int p3), .val (.int p4), .val (.int p5), .val (.int p6), .val (.int (2 : Int32)), .val (.int x3), .val (.int x5), .val (.int x7), .val (.int x9), .val (.int x11), .val (.int x13), .val (.int x15), .val (.int x17), .val (.int x19), .val (.int x21), .val (.ref r22), .unset] [(.int (F4 (0 : Int32) x17 p5)), (.int (((F4 (1 : Int32) x11 p5) + (F4 (1 : Int32) x19 p5)) + (F4 (0 : Int32) x21 p5)))]))
    refine Done.step (fun t k => XS.iadd X36.here hx rfl (hb hby at_179) rfl k) ?_
    show Done p e below s _ _ _ (T36.setTop (mkF m 180 #[.val (.int p1), .val (.int p2), .val (.int p3), .val (.int p4), .val (.int p5), .val (.int p6), .val (.int (2 : Int32)), .val (.int x3), .val (.int x5), .val (.int x7), .val (.int x9), .val (.int x11), .val (.int x13), .val (.int x15), .val (.int x17), .val (.int x19), .val (.int x21), .val (.ref r22), .unset] [(.int ((((F4 (1 : Int32) x11 p5) + (F4 (1 : Int32) x19 p5)) + (F4 (0 : Int32) x21 p5)) + (F4 (0 : Int32) x17 p5)))]))
    refine Done.step (fun t k => XS.istore X36.here hx rfl (hb hby at_180) rfl (l' := #[.val (.int p1), .val (.int p2), .val (.int p3), .val (.int p4), .val (.int p5), .val (.int p6), .val (.int (2 : Int32)), .val (.int x3), .val (.int x5), .val (.int x7), .val (.int x9), .val (.int x11), .val (.int x13), .val (.int x15), .val (.int x17), .val (.int x19), .val (.int x21), .val (.ref r22), .val (.int ((((F4 (1 : Int32) x11 p5) + (F4 (1 : Int32) x19 p5)) + (F4 (0 : Int32) x21 p5)) + (F4 (0 : Int32) x17 p5)))]) rfl k) ?_
    show Done p e below s _ _ _ (T36.setTop (mkF m 182 #[.val (.int p1), .val (.int p2), .val (.int p3), .val (.int p4), .val (.int p5), .val (.int p6), .val (.int (2 : Int32)), .val (.int x3), .val (.int x5), .val (.int x7), .val (.int x9), .val (.int x11), .val (.int x13), .val (.int x15), .val (.int x17), .val (.int x19), .val (.int x21), .val (.ref r22), .val (.int ((((F4 (1 : Int32) x11 p5) + (F4 (1 : Int32) x19 p5)) + (F4 (0 : Int32) x21 p5)) + (F4 (0 : Int32) x17 p5)))] []))
    refine Done.step (fun t k => XS.aload X36.here hx rfl (hb hby at_182) rfl rfl k) ?_
    show Done p e below s _ _ _ (T36.setTop (mkF m 184 #[.val (.int p1), .val (.int p2), .val (.int p3), .val (.int p4), .val (.int p5), .val (.int p6), .val (.int (2 : Int32)), .val (.int x3), .val (.int x5), .val (.int x7), .val (.int x9), .val (.int x11), .val (.int x13), .val (.int x15), .val (.int x17), .val (.int x19), .val (.int x21), .val (.ref r22), .val (.int ((((F4 (1 : Int32) x11 p5) + (F4 (1 : Int32) x19 p5)) + (F4 (0 : Int32) x21 p5)) + (F4 (0 : Int32) x17 p5)))] [(.ref r22)]))
    refine Done.step (fun t k => XS.iload X36.here hx rfl (hb hby at_184) rfl k) ?_
    show Done p e below s _ _ _ (T36.setTop (mkF m 186 #[.val (.int p1), .val (.int p2), .val (.int p3), .val (.int p4), .val (.int p5), .val (.int p6), .val (.int (2 : Int32)), .val (.int x3), .val (.int x5), .val (.int x7), .val (.int x9), .val (.int x11), .val (.int x13), .val (.int x15), .val (.int x17), .val (.int x19), .val (.int x21), .val (.ref r22), .val (.int ((((F4 (1 : Int32) x11 p5) + (F4 (1 : Int32) x19 p5)) + (F4 (0 : Int32) x21 p5)) + (F4 (0 : Int32) x17 p5)))] [(.int p5), (.ref r22)]))
    obtain ⟨v37, _, ⟨T37, L37, k37, n37⟩, -, X37, ⟨Lc37, hQ37, l37, y37, z37⟩, st37⟩ := Jvm.LawKit.callS X36 hx (y := (⟨"com/example/ruled_ledger/ruledledger/rules/SuperclassForest", "startAbove", "([II)I"⟩ : MethodName)) hown (mvT hZ (hw _ (List.mem_of_getElem? (i := 15) rfl))) (mvT hZ (hw _ (List.mem_of_getElem? (i := 16) rfl))) (mvT hZ (hw _ (List.mem_of_getElem? (i := 17) rfl))) (mvT hZ (hw _ (List.mem_of_getElem? (i := 18) rfl))) (by decide) (backOf (W := 0) (rm5 l Z a0 hw [] r22 p5 (MK (2 : Int32) x11 x19 x21 x17) T22.heap n0 Zk22 x22 (own_asc2 _ _ _ _ hsrt) (Nat.le_of_ble_eq_true rfl)) hZ (hw _ (List.mem_of_getElem? (i := 18) rfl)) (hw _ (List.mem_of_getElem? (i := 17) rfl)) (by decide) (by decide)) (g := (mkF m 186 #[.val (.int p1), .val (.int p2), .val (.int p3), .val (.int p4), .val (.int p5), .val (.int p6), .val (.int (2 : Int32)), .val (.int x3), .val (.int x5), .val (.int x7), .val (.int x9), .val (.int x11), .val (.int x13), .val (.int x15), .val (.int x17), .val (.int x19), .val (.int x21), .val (.ref r22), .val (.int ((((F4 (1 : Int32) x11 p5) + (F4 (1 : Int32) x19 p5)) + (F4 (0 : Int32) x21 p5)) + (F4 (0 : Int32) x17 p5)))] [(.int p5), (.ref r22)])) rfl (by rw [hml]; rfl) (argsL := [(.ref r22), (.int p5)]) (rest := []) (lenOf pd_3 rfl) rfl (by show 2 * 0 + _ ≤ _; exact Nat.le_of_eq rfl) (hb hby at_186) (fun _ _ => ⟨rfl, e36, (by decide : 1 + 0 ≤ _), (by decide : 4 + 0 ≤ _)⟩)
    dsimp only [Pt.U, Pt.locs, Pt.cells, Pt.slots] at X37 l37 y37 z37 st37 hQ37
    subst l37 y37 z37
    refine Done.step st37 ?_
    obtain ⟨⟨kk, rfl, hup⟩, N37q, e37⟩ := hQ37
    have N37 := Fr.app N36 N37q
    show Done p e below s _ _ _ (T37.setTop (mkF m 189 #[.val (.int p1), .val (.int p2), .val (.int p3), .val (.int p4), .val (.int p5), .val (.int p6), .val (.int (2 : Int32)), .val (.int x3), .val (.int x5), .val (.int x7), .val (.int x9), .val (.int x11), .val (.int x13), .val (.int x15), .val (.int x17), .val (.int x19), .val (.int x21), .val (.ref r22), .val (.int ((((F4 (1 : Int32) x11 p5) + (F4 (1 : Int32) x19 p5)) + (F4 (0 : Int32) x21 p5)) + (F4 (0 : Int32) x17 p5)))] [(.int kk)]))
    refine Done.step (fun t k => XS.iload X37.here hx rfl (hb hby at_189) rfl k) ?_
    show Done p e below s _ _ _ (T37.setTop (mkF m 191 #[.val (.int p1), .val (.int p2), .val (.int p3), .val (.int p4), .val (.int p5), .val (.int p6), .val (.int (2 : Int32)), .val (.int x3), .val (.int x5), .val (.int x7), .val (.int x9), .val (.int x11), .val (.int x13), .val (.int x15), .val (.int x17), .val (.int x19), .val (.int x21), .val (.ref r22), .val (.int ((((F4 (1 : Int32) x11 p5) + (F4 (1 : Int32) x19 p5)) + (F4 (0 : Int32) x21 p5)) + (F4 (0 : Int32) x17 p5)))] [(.int ((((F4 (1 : Int32) x11 p5) + (F4 (1 : Int32) x19 p5)) + (F4 (0 : Int32) x21 p5)) + (F4 (0 : Int32) x17 p5))), (.int kk)]))
    refine Done.step (fun t k => XS.icmpNo X37.here hx rfl (hb hby at_191) rfl (teq (own_cnt2 x11 x19 x21 x17 p5 kk hup)).2 k) ?_
    show Done p e below s _ _ _ (T37.setTop (mkF m 194 #[.val (.int p1), .val (.int p2), .val (.int p3), .val (.int p4), .val (.int p5), .val (.int p6), .val (.int (2 : Int32)), .val (.int x3), .val (.int x5), .val (.int x7), .val (.int x9), .val (.int x11), .val (.int x13), .val (.int x15), .val (.int x17), .val (.int x19), .val (.int x21), .val (.ref r22), .val (.int ((((F4 (1 : Int32) x11 p5) + (F4 (1 : Int32) x19 p5)) + (F4 (0 : Int32) x21 p5)) + (F4 (0 : Int32) x17 p5)))] []))
    refine Done.step (fun t k => XS.iconst X37.here hx rfl (hb hby at_194) k) ?_
    show Done p e below s _ _ _ (T37.setTop (mkF m 195 #[.val (.int p1), .val (.int p2), .val (.int p3), .val (.int p4), .val (.int p5), .val (.int p6), .val (.int (2 : Int32)), .val (.int x3), .val (.int x5), .val (.int x7), .val (.int x9), .val (.int x11), .val (.int x13), .val (.int x15), .val (.int x17), .val (.int x19), .val (.int x21), .val (.ref r22), .val (.int ((((F4 (1 : Int32) x11 p5) + (F4 (1 : Int32) x19 p5)) + (F4 (0 : Int32) x21 p5)) + (F4 (0 : Int32) x17 p5)))] [(.int (1 : Int32))]))
    refine Done.step (fun t k => XS.goto X37.here hx rfl (pc0 := 195) (pc' := 199) rfl (hb hby at_195) (by decide) (by decide) k) ?_
    show Done p e below s _ _ _ (T37.setTop (mkF m 199 #[.val (.int p1), .val (.int p2), .val (.int p3), .val (.int p4), .val (.int p5), .val (.int p6), .val (.int (2 : Int32)), .val (.int x3), .val (.int x5), .val (.int x7), .val (.int x9), .val (.int x11), .val (.int x13), .val (.int x15), .val (.int x17), .val (.int x19), .val (.int x21), .val (.ref r22), .val (.int ((((F4 (1 : Int32) x11 p5) + (F4 (1 : Int32) x19 p5)) + (F4 (0 : Int32) x21 p5)) + (F4 (0 : Int32) x17 p5)))] [(.int (1 : Int32))]))
    exact Done.narr X37 hx hlk hret (by simp) (hb hby at_199) (by decide) (by decide) ⟨rfl, N37⟩
  · show Done p e below s _ _ _ (T22.setTop (mkF m 106 #[.val (.int p1), .val (.int p2), .val (.int p3), .val (.int p4), .val (.int p5), .val (.int p6), .val (.int (3 : Int32)), .val (.int x3), .val (.int x5), .val (.int x7), .val (.int x9), .val (.int x11), .val (.int x13), .val (.int x15), .val (.int x17), .val (.int x19), .val (.int x21), .val (.ref r22), .unset] []))
    refine Done.step (fun t k => XS.iload X22.here hx rfl (hb hby at_106) rfl k) ?_
    show Done p e below s _ _ _ (T22.setTop (mkF m 108 #[.val (.int p1), .val (.int p2), .val (.int p3), .val (.int p4), .val (.int p5), .val (.int p6), .val (.int (3 : Int32)), .val (.int x3), .val (.int x5), .val (.int x7), .val (.int x9), .val (.int x11), .val (.int x13), .val (.int x15), .val (.int x17), .val (.int x19), .val (.int x21), .val (.ref r22), .unset] [(.int (3 : Int32))]))
    refine Done.step (fun t k => XS.ifNo X22.here hx rfl (hb hby at_108) rfl ((if0 _ _).trans (tlt (by decide)).2.2.2) k) ?_
    show Done p e below s _ _ _ (T22.setTop (mkF m 111 #[.val (.int p1), .val (.int p2), .val (.int p3), .val (.int p4), .val (.int p5), .val (.int p6), .val (.int (3 : Int32)), .val (.int x3), .val (.int x5), .val (.int x7), .val (.int x9), .val (.int x11), .val (.int x13), .val (.int x15), .val (.int x17), .val (.int x19), .val (.int x21), .val (.ref r22), .unset] []))
    refine Done.step (fun t k => XS.iconst X22.here hx rfl (hb hby at_111) k) ?_
    show Done p e below s _ _ _ (T22.setTop (mkF m 112 #[.val (.int p1), .val (.int p2), .val (.int p3), .val (.int p4), .val (.int p5), .val (.int p6), .val (.int (3 : Int32)), .val (.int x3), .val (.int x5), .val (.int x7), .val (.int x9), .val (.int x11), .val (.int x13), .val (.int x15), .val (.int x17), .val (.int x19), .val (.int x21), .val (.ref r22), .unset] [(.int (1 : Int32))]))
    refine Done.step (fun t k => XS.goto X22.here hx rfl (pc0 := 112) (pc' := 116) rfl (hb hby at_112) (by decide) (by decide) k) ?_
    show Done p e below s _ _ _ (T22.setTop (mkF m 116 #[.val (.int p1), .val (.int p2), .val (.int p3), .val (.int p4), .val (.int p5), .val (.int p6), .val (.int (3 : Int32)), .val (.int x3), .val (.int x5), .val (.int x7), .val (.int x9), .val (.int x11), .val (.int x13), .val (.int x15), .val (.int x17), .val (.int x19), .val (.int x21), .val (.ref r22), .unset] [(.int (1 : Int32))]))
    refine Done.step (fun t k => XS.iload X22.here hx rfl (hb hby at_116) rfl k) ?_
    show Done p e below s _ _ _ (T22.setTop (mkF m 118 #[.val (.int p1), .val (.int p2), .val (.int p3), .val (.int p4), .val (.int p5), .val (.int p6), .val (.int (3 : Int32)), .val (.int x3), .val (.int x5), .val (.int x7), .val (.int x9), .val (.int x11), .val (.int x13), .val (.int x15), .val (.int x17), .val (.int x19), .val (.int x21), .val (.ref r22), .unset] [(.int x11), (.int (1 : Int32))]))
    refine Done.step (fun t k => XS.iload X22.here hx rfl (hb hby at_118) rfl k) ?_
    show Done p e below s _ _ _ (T22.setTop (mkF m 120 #[.val (.int p1), .val (.int p2), .val (.int p3), .val (.int p4), .val (.int p5), .val (.int p6), .val (.int (3 : Int32)), .val (.int x3), .val (.int x5), .val (.int x7), .val (.int x9), .val (.int x11), .val (.int x13), .val (.int x15), .val (.int x17), .val (.int x19), .val (.int x21), .val (.ref r22), .unset] [(.int p5), (.int x11), (.int (1 : Int32))]))
    obtain ⟨v38, _, ⟨T38, L38, k38, n38⟩, -, X38, ⟨Lc38, hQ38, l38, y38, z38⟩, st38⟩ := Jvm.LawKit.callS X22 hx (y := (⟨"com/example/ruled_ledger/ruledledger/rules/SuperclassForestStartAbovePinLaw", "le", "(ZII)I"⟩ : MethodName)) hown (mvT hZ (hw _ (List.mem_of_getElem? (i := 12) rfl))) (mvT hZ (hw _ (List.mem_of_getElem? (i := 13) rfl))) (mvT hZ (hw _ (List.mem_of_getElem? (i := 9) rfl))) (mvT hZ (hw _ (List.mem_of_getElem? (i := 14) rfl))) (by decide) (backOf (W := 0) (rm4 l Z a0 hw [] (1 : Int32) x11 p5 T22.heap n0 Zk22 ) hZ (hw _ (List.mem_of_getElem? (i := 14) rfl)) (hw _ (List.mem_of_getElem? (i := 9) rfl)) (by decide) (by decide)) (g := (mkF m 120 #[.val (.int p1), .val (.int p2), .val (.int p3), .val (.int p4), .val (.int p5), .val (.int p6), .val (.int (3 : Int32)), .val (.int x3), .val (.int x5), .val (.int x7), .val (.int x9), .val (.int x11), .val (.int x13), .val (.int x15), .val (.int x17), .val (.int x19), .val (.int x21), .val (.ref r22), .unset] [(.int p5), (.int x11), (.int (1 : Int32))])) rfl (by rw [hml]; rfl) (argsL := [(.int (1 : Int32)), (.int x11), (.int p5)]) (rest := []) (lenOf pd_2 rfl) rfl (by show 2 * 0 + _ ≤ _; exact Nat.le_of_eq rfl) (hb hby at_120) (fun _ _ => ⟨rfl, rfl, (by decide : 1 + 0 ≤ _), (by decide : 4 + 0 ≤ _)⟩)
    dsimp only [Pt.U, Pt.locs, Pt.cells, Pt.slots] at X38 l38 y38 z38 st38 hQ38
    subst l38 y38 z38
    refine Done.step st38 ?_
    obtain ⟨rfl, N38q, e38⟩ := hQ38
    have N38 := Fr.app N22 N38q
    show Done p e below s _ _ _ (T38.setTop (mkF m 123 #[.val (.int p1), .val (.int p2), .val (.int p3), .val (.int p4), .val (.int p5), .val (.int p6), .val (.int (3 : Int32)), .val (.int x3), .val (.int x5), .val (.int x7), .val (.int x9), .val (.int x11), .val (.int x13), .val (.int x15), .val (.int x17), .val (.int x19), .val (.int x21), .val (.ref r22), .unset] [(.int (F4 (1 : Int32) x11 p5))]))
    refine Done.step (fun t k => XS.iload X38.here hx rfl (hb hby at_123) rfl k) ?_
    show Done p e below s _ _ _ (T38.setTop (mkF m 125 #[.val (.int p1), .val (.int p2), .val (.int p3), .val (.int p4), .val (.int p5), .val (.int p6), .val (.int (3 : Int32)), .val (.int x3), .val (.int x5), .val (.int x7), .val (.int x9), .val (.int x11), .val (.int x13), .val (.int x15), .val (.int x17), .val (.int x19), .val (.int x21), .val (.ref r22), .unset] [(.int (3 : Int32)), (.int (F4 (1 : Int32) x11 p5))]))
    refine Done.step (fun t k => XS.iconst X38.here hx rfl (hb hby at_125) k) ?_
    show Done p e below s _ _ _ (T38.setTop (mkF m 126 #[.val (.int p1), .val (.int p2), .val (.int p3), .val (.int p4), .val (.int p5), .val (.int p6), .val (.int (3 : Int32)), .val (.int x3), .val (.int x5), .val (.int x7), .val (.int x9), .val (.int x11), .val (.int x13), .val (.int x15), .val (.int x17), .val (.int x19), .val (.int x21), .val (.ref r22), .unset] [(.int (1 : Int32)), (.int (3 : Int32)), (.int (F4 (1 : Int32) x11 p5))]))
    refine Done.step (fun t k => XS.icmpNo X38.here hx rfl (hb hby at_126) rfl (tlt (by decide)).2.2.2 k) ?_
    show Done p e below s _ _ _ (T38.setTop (mkF m 129 #[.val (.int p1), .val (.int p2), .val (.int p3), .val (.int p4), .val (.int p5), .val (.int p6), .val (.int (3 : Int32)), .val (.int x3), .val (.int x5), .val (.int x7), .val (.int x9), .val (.int x11), .val (.int x13), .val (.int x15), .val (.int x17), .val (.int x19), .val (.int x21), .val (.ref r22), .unset] [(.int (F4 (1 : Int32) x11 p5))]))
    refine Done.step (fun t k => XS.iconst X38.here hx rfl (hb hby at_129) k) ?_
    show Done p e below s _ _ _ (T38.setTop (mkF m 130 #[.val (.int p1), .val (.int p2), .val (.int p3), .val (.int p4), .val (.int p5), .val (.int p6), .val (.int (3 : Int32)), .val (.int x3), .val (.int x5), .val (.int x7), .val (.int x9), .val (.int x11), .val (.int x13), .val (.int x15), .val (.int x17), .val (.int x19), .val (.int x21), .val (.ref r22), .unset] [(.int (1 : Int32)), (.int (F4 (1 : Int32) x11 p5))]))
    refine Done.step (fun t k => XS.goto X38.here hx rfl (pc0 := 130) (pc' := 134) rfl (hb hby at_130) (by decide) (by decide) k) ?_
    show Done p e below s _ _ _ (T38.setTop (mkF m 134 #[.val (.int p1), .val (.int p2), .val (.int p3), .val (.int p4), .val (.int p5), .val (.int p6), .val (.int (3 : Int32)), .val (.int x3), .val (.int x5), .val (.int x7), .val (.int x9), .val (.int x11), .val (.int x13), .val (.int x15), .val (.int x17), .val (.int x19), .val (.int x21), .val (.ref r22), .unset] [(.int (1 : Int32)), (.int (F4 (1 : Int32) x11 p5))]))
    refine Done.step (fun t k => XS.iload X38.here hx rfl (hb hby at_134) rfl k) ?_
    show Done p e below s _ _ _ (T38.setTop (mkF m 136 #[.val (.int p1), .val (.int p2), .val (.int p3), .val (.int p4), .val (.int p5), .val (.int p6), .val (.int (3 : Int32)), .val (.int x3), .val (.int x5), .val (.int x7), .val (.int x9), .val (.int x11), .val (.int x13), .val (.int x15), .val (.int x17), .val (.int x19), .val (.int x21), .val (.ref r22), .unset] [(.int x19), (.int (1 : Int32)), (.int (F4 (1 : Int32) x11 p5))]))
    refine Done.step (fun t k => XS.iload X38.here hx rfl (hb hby at_136) rfl k) ?_
    show Done p e below s _ _ _ (T38.setTop (mkF m 138 #[.val (.int p1), .val (.int p2), .val (.int p3), .val (.int p4), .val (.int p5), .val (.int p6), .val (.int (3 : Int32)), .val (.int x3), .val (.int x5), .val (.int x7), .val (.int x9), .val (.int x11), .val (.int x13), .val (.int x15), .val (.int x17), .val (.int x19), .val (.int x21), .val (.ref r22), .unset] [(.int p5), (.int x19), (.int (1 : Int32)), (.int (F4 (1 : Int32) x11 p5))]))
    obtain ⟨v39, _, ⟨T39, L39, k39, n39⟩, -, X39, ⟨Lc39, hQ39, l39, y39, z39⟩, st39⟩ := Jvm.LawKit.callS X38 hx (y := (⟨"com/example/ruled_ledger/ruledledger/rules/SuperclassForestStartAbovePinLaw", "le", "(ZII)I"⟩ : MethodName)) hown (mvT hZ (hw _ (List.mem_of_getElem? (i := 12) rfl))) (mvT hZ (hw _ (List.mem_of_getElem? (i := 13) rfl))) (mvT hZ (hw _ (List.mem_of_getElem? (i := 9) rfl))) (mvT hZ (hw _ (List.mem_of_getElem? (i := 14) rfl))) (by decide) (backOf (W := 1) (rm4 l Z a0 hw [] (1 : Int32) x19 p5 T22.heap n0 Zk22 ) hZ (hw _ (List.mem_of_getElem? (i := 14) rfl)) (hw _ (List.mem_of_getElem? (i := 9) rfl)) (by decide) (by decide)) (g := (mkF m 138 #[.val (.int p1), .val (.int p2), .val (.int p3), .val (.int p4), .val (.int p5), .val (.int p6), .val (.int (3 : Int32)), .val (.int x3), .val (.int x5), .val (.int x7), .val (.int x9), .val (.int x11), .val (.int x13), .val (.int x15), .val (.int x17), .val (.int x19), .val (.int x21), .val (.ref r22), .unset] [(.int p5), (.int x19), (.int (1 : Int32)), (.int (F4 (1 : Int32) x11 p5))])) rfl (by rw [hml]; rfl) (argsL := [(.int (1 : Int32)), (.int x19), (.int p5)]) (rest := [(.int (F4 (1 : Int32) x11 p5))]) (lenOf pd_2 rfl) rfl (by show 2 * 0 + _ ≤ _; exact Nat.le_of_eq rfl) (hb hby at_138) (fun _ _ => ⟨rfl, e38, (by decide : 1 + 0 ≤ _), (by decide : 4 + 0 ≤ _)⟩)
    dsimp only [Pt.U, Pt.locs, Pt.cells, Pt.slots] at X39 l39 y39 z39 st39 hQ39
    subst l39 y39 z39
    refine Done.step st39 ?_
    obtain ⟨rfl, N39q, e39⟩ := hQ39
    have N39 := Fr.app N38 N39q
    show Done p e below s _ _ _ (T39.setTop (mkF m 141 #[.val (.int p1), .val (.int p2), .val (.int p3), .val (.int p4), .val (.int p5), .val (.int p6), .val (.int (3 : Int32)), .val (.int x3), .val (.int x5), .val (.int x7), .val (.int x9), .val (.int x11), .val (.int x13), .val (.int x15), .val (.int x17), .val (.int x19), .val (.int x21), .val (.ref r22), .unset] [(.int (F4 (1 : Int32) x19 p5)), (.int (F4 (1 : Int32) x11 p5))]))
    refine Done.step (fun t k => XS.iadd X39.here hx rfl (hb hby at_141) rfl k) ?_
    show Done p e below s _ _ _ (T39.setTop (mkF m 142 #[.val (.int p1), .val (.int p2), .val (.int p3), .val (.int p4), .val (.int p5), .val (.int p6), .val (.int (3 : Int32)), .val (.int x3), .val (.int x5), .val (.int x7), .val (.int x9), .val (.int x11), .val (.int x13), .val (.int x15), .val (.int x17), .val (.int x19), .val (.int x21), .val (.ref r22), .unset] [(.int ((F4 (1 : Int32) x11 p5) + (F4 (1 : Int32) x19 p5)))]))
    refine Done.step (fun t k => XS.iload X39.here hx rfl (hb hby at_142) rfl k) ?_
    show Done p e below s _ _ _ (T39.setTop (mkF m 144 #[.val (.int p1), .val (.int p2), .val (.int p3), .val (.int p4), .val (.int p5), .val (.int p6), .val (.int (3 : Int32)), .val (.int x3), .val (.int x5), .val (.int x7), .val (.int x9), .val (.int x11), .val (.int x13), .val (.int x15), .val (.int x17), .val (.int x19), .val (.int x21), .val (.ref r22), .unset] [(.int (3 : Int32)), (.int ((F4 (1 : Int32) x11 p5) + (F4 (1 : Int32) x19 p5)))]))
    refine Done.step (fun t k => XS.iconst X39.here hx rfl (hb hby at_144) k) ?_
    show Done p e below s _ _ _ (T39.setTop (mkF m 145 #[.val (.int p1), .val (.int p2), .val (.int p3), .val (.int p4), .val (.int p5), .val (.int p6), .val (.int (3 : Int32)), .val (.int x3), .val (.int x5), .val (.int x7), .val (.int x9), .val (.int x11), .val (.int x13), .val (.int x15), .val (.int x17), .val (.int x19), .val (.int x21), .val (.ref r22), .unset] [(.int (2 : Int32)), (.int (3 : Int32)), (.int ((F4 (1 : Int32) x11 p5) + (F4 (1 : Int32) x19 p5)))]))
    refine Done.step (fun t k => XS.icmpNo X39.here hx rfl (hb hby at_145) rfl (tlt (by decide)).2.2.2 k) ?_
    show Done p e below s _ _ _ (T39.setTop (mkF m 148 #[.val (.int p1), .val (.int p2), .val (.int p3), .val (.int p4), .val (.int p5), .val (.int p6), .val (.int (3 : Int32)), .val (.int x3), .val (.int x5), .val (.int x7), .val (.int x9), .val (.int x11), .val (.int x13), .val (.int x15), .val (.int x17), .val (.int x19), .val (.int x21), .val (.ref r22), .unset] [(.int ((F4 (1 : Int32) x11 p5) + (F4 (1 : Int32) x19 p5)))]))
    refine Done.step (fun t k => XS.iconst X39.here hx rfl (hb hby at_148) k) ?_
    show Done p e below s _ _ _ (T39.setTop (mkF m 149 #[.val (.int p1), .val (.int p2), .val (.int p3), .val (.int p4), .val (.int p5), .val (.int p6), .val (.int (3 : Int32)), .val (.int x3), .val (.int x5), .val (.int x7), .val (.int x9), .val (.int x11), .val (.int x13), .val (.int x15), .val (.int x17), .val (.int x19), .val (.int x21), .val (.ref r22), .unset] [(.int (1 : Int32)), (.int ((F4 (1 : Int32) x11 p5) + (F4 (1 : Int32) x19 p5)))]))
    refine Done.step (fun t k => XS.goto X39.here hx rfl (pc0 := 149) (pc' := 153) rfl (hb hby at_149) (by decide) (by decide) k) ?_
    show Done p e below s _ _ _ (T39.setTop (mkF m 153 #[.val (.int p1), .val (.int p2), .val (.int p3), .val (.int p4), .val (.int p5), .val (.int p6), .val (.int (3 : Int32)), .val (.int x3), .val (.int x5), .val (.int x7), .val (.int x9), .val (.int x11), .val (.int x13), .val (.int x15), .val (.int x17), .val (.int x19), .val (.int x21), .val (.ref r22), .unset] [(.int (1 : Int32)), (.int ((F4 (1 : Int32) x11 p5) + (F4 (1 : Int32) x19 p5)))]))
    refine Done.step (fun t k => XS.iload X39.here hx rfl (hb hby at_153) rfl k) ?_
    show Done p e below s _ _ _ (T39.setTop (mkF m 155 #[.val (.int p1), .val (.int p2), .val (.int p3), .val (.int p4), .val (.int p5), .val (.int p6), .val (.int (3 : Int32)), .val (.int x3), .val (.int x5), .val (.int x7), .val (.int x9), .val (.int x11), .val (.int x13), .val (.int x15), .val (.int x17), .val (.int x19), .val (.int x21), .val (.ref r22), .unset] [(.int x21), (.int (1 : Int32)), (.int ((F4 (1 : Int32) x11 p5) + (F4 (1 : Int32) x19 p5)))]))
    refine Done.step (fun t k => XS.iload X39.here hx rfl (hb hby at_155) rfl k) ?_
    show Done p e below s _ _ _ (T39.setTop (mkF m 157 #[.val (.int p1), .val (.int p2), .val (.int p3), .val (.int p4), .val (.int p5), .val (.int p6), .val (.int (3 : Int32)), .val (.int x3), .val (.int x5), .val (.int x7), .val (.int x9), .val (.int x11), .val (.int x13), .val (.int x15), .val (.int x17), .val (.int x19), .val (.int x21), .val (.ref r22), .unset] [(.int p5), (.int x21), (.int (1 : Int32)), (.int ((F4 (1 : Int32) x11 p5) + (F4 (1 : Int32) x19 p5)))]))
    obtain ⟨v40, _, ⟨T40, L40, k40, n40⟩, -, X40, ⟨Lc40, hQ40, l40, y40, z40⟩, st40⟩ := Jvm.LawKit.callS X39 hx (y := (⟨"com/example/ruled_ledger/ruledledger/rules/SuperclassForestStartAbovePinLaw", "le", "(ZII)I"⟩ : MethodName)) hown (mvT hZ (hw _ (List.mem_of_getElem? (i := 12) rfl))) (mvT hZ (hw _ (List.mem_of_getElem? (i := 13) rfl))) (mvT hZ (hw _ (List.mem_of_getElem? (i := 9) rfl))) (mvT hZ (hw _ (List.mem_of_getElem? (i := 14) rfl))) (by decide) (backOf (W := 1) (rm4 l Z a0 hw [] (1 : Int32) x21 p5 T22.heap n0 Zk22 ) hZ (hw _ (List.mem_of_getElem? (i := 14) rfl)) (hw _ (List.mem_of_getElem? (i := 9) rfl)) (by decide) (by decide)) (g := (mkF m 157 #[.val (.int p1), .val (.int p2), .val (.int p3), .val (.int p4), .val (.int p5), .val (.int p6), .val (.int (3 : Int32)), .val (.int x3), .val (.int x5), .val (.int x7), .val (.int x9), .val (.int x11), .val (.int x13), .val (.int x15), .val (.int x17), .val (.int x19), .val (.int x21), .val (.ref r22), .unset] [(.int p5), (.int x21), (.int (1 : Int32)), (.int ((F4 (1 : Int32) x11 p5) + (F4 (1 : Int32) x19 p5)))])) rfl (by rw [hml]; rfl) (argsL := [(.int (1 : Int32)), (.int x21), (.int p5)]) (rest := [(.int ((F4 (1 : Int32) x11 p5) + (F4 (1 : Int32) x19 p5)))]) (lenOf pd_2 rfl) rfl (by show 2 * 0 + _ ≤ _; exact Nat.le_of_eq rfl) (hb hby at_157) (fun _ _ => ⟨rfl, e39, (by decide : 1 + 0 ≤ _), (by decide : 4 + 0 ≤ _)⟩)
    dsimp only [Pt.U, Pt.locs, Pt.cells, Pt.slots] at X40 l40 y40 z40 st40 hQ40
    subst l40 y40 z40
    refine Done.step st40 ?_
    obtain ⟨rfl, N40q, e40⟩ := hQ40
    have N40 := Fr.app N39 N40q
    show Done p e below s _ _ _ (T40.setTop (mkF m 160 #[.val (.int p1), .val (.int p2), .val (.int p3), .val (.int p4), .val (.int p5), .val (.int p6), .val (.int (3 : Int32)), .val (.int x3), .val (.int x5), .val (.int x7), .val (.int x9), .val (.int x11), .val (.int x13), .val (.int x15), .val (.int x17), .val (.int x19), .val (.int x21), .val (.ref r22), .unset] [(.int (F4 (1 : Int32) x21 p5)), (.int ((F4 (1 : Int32) x11 p5) + (F4 (1 : Int32) x19 p5)))]))
    refine Done.step (fun t k => XS.iadd X40.here hx rfl (hb hby at_160) rfl k) ?_
    show Done p e below s _ _ _ (T40.setTop (mkF m 161 #[.val (.int p1), .val (.int p2), .val (.int p3), .val (.int p4), .val (.int p5), .val (.int p6), .val (.int (3 : Int32)), .val (.int x3), .val (.int x5), .val (.int x7), .val (.int x9), .val (.int x11), .val (.int x13), .val (.int x15), .val (.int x17), .val (.int x19), .val (.int x21), .val (.ref r22), .unset] [(.int (((F4 (1 : Int32) x11 p5) + (F4 (1 : Int32) x19 p5)) + (F4 (1 : Int32) x21 p5)))]))
    refine Done.step (fun t k => XS.iload X40.here hx rfl (hb hby at_161) rfl k) ?_
    show Done p e below s _ _ _ (T40.setTop (mkF m 163 #[.val (.int p1), .val (.int p2), .val (.int p3), .val (.int p4), .val (.int p5), .val (.int p6), .val (.int (3 : Int32)), .val (.int x3), .val (.int x5), .val (.int x7), .val (.int x9), .val (.int x11), .val (.int x13), .val (.int x15), .val (.int x17), .val (.int x19), .val (.int x21), .val (.ref r22), .unset] [(.int (3 : Int32)), (.int (((F4 (1 : Int32) x11 p5) + (F4 (1 : Int32) x19 p5)) + (F4 (1 : Int32) x21 p5)))]))
    refine Done.step (fun t k => XS.iconst X40.here hx rfl (hb hby at_163) k) ?_
    show Done p e below s _ _ _ (T40.setTop (mkF m 164 #[.val (.int p1), .val (.int p2), .val (.int p3), .val (.int p4), .val (.int p5), .val (.int p6), .val (.int (3 : Int32)), .val (.int x3), .val (.int x5), .val (.int x7), .val (.int x9), .val (.int x11), .val (.int x13), .val (.int x15), .val (.int x17), .val (.int x19), .val (.int x21), .val (.ref r22), .unset] [(.int (3 : Int32)), (.int (3 : Int32)), (.int (((F4 (1 : Int32) x11 p5) + (F4 (1 : Int32) x19 p5)) + (F4 (1 : Int32) x21 p5)))]))
    refine Done.step (fun t k => XS.icmpYes X40.here hx rfl (pc0 := 164) (pc' := 171) rfl (hb hby at_164) rfl (flt (by decide)).2.2.2 (by decide) (by decide) k) ?_
    show Done p e below s _ _ _ (T40.setTop (mkF m 171 #[.val (.int p1), .val (.int p2), .val (.int p3), .val (.int p4), .val (.int p5), .val (.int p6), .val (.int (3 : Int32)), .val (.int x3), .val (.int x5), .val (.int x7), .val (.int x9), .val (.int x11), .val (.int x13), .val (.int x15), .val (.int x17), .val (.int x19), .val (.int x21), .val (.ref r22), .unset] [(.int (((F4 (1 : Int32) x11 p5) + (F4 (1 : Int32) x19 p5)) + (F4 (1 : Int32) x21 p5)))]))
    refine Done.step (fun t k => XS.iconst X40.here hx rfl (hb hby at_171) k) ?_
    show Done p e below s _ _ _ (T40.setTop (mkF m 172 #[.val (.int p1), .val (.int p2), .val (.int p3), .val (.int p4), .val (.int p5), .val (.int p6), .val (.int (3 : Int32)), .val (.int x3), .val (.int x5), .val (.int x7), .val (.int x9), .val (.int x11), .val (.int x13), .val (.int x15), .val (.int x17), .val (.int x19), .val (.int x21), .val (.ref r22), .unset] [(.int (0 : Int32)), (.int (((F4 (1 : Int32) x11 p5) + (F4 (1 : Int32) x19 p5)) + (F4 (1 : Int32) x21 p5)))]))
    refine Done.step (fun t k => XS.iload X40.here hx rfl (hb hby at_172) rfl k) ?_
    show Done p e below s _ _ _ (T40.setTop (mkF m 174 #[.val (.int p1), .val (.int p2), .val (.int p3), .val (.int p4), .val (.int p5), .val (.int p6), .val (.int (3 : Int32)), .val (.int x3), .val (.int x5), .val (.int x7), .val (.int x9), .val (.int x11), .val (.int x13), .val (.int x15), .val (.int x17), .val (.int x19), .val (.int x21), .val (.ref r22), .unset] [(.int x17), (.int (0 : Int32)), (.int (((F4 (1 : Int32) x11 p5) + (F4 (1 : Int32) x19 p5)) + (F4 (1 : Int32) x21 p5)))]))
    refine Done.step (fun t k => XS.iload X40.here hx rfl (hb hby at_174) rfl k) ?_
    show Done p e below s _ _ _ (T40.setTop (mkF m 176 #[.val (.int p1), .val (.int p2), .val (.int p3), .val (.int p4), .val (.int p5), .val (.int p6), .val (.int (3 : Int32)), .val (.int x3), .val (.int x5), .val (.int x7), .val (.int x9), .val (.int x11), .val (.int x13), .val (.int x15), .val (.int x17), .val (.int x19), .val (.int x21), .val (.ref r22), .unset] [(.int p5), (.int x17), (.int (0 : Int32)), (.int (((F4 (1 : Int32) x11 p5) + (F4 (1 : Int32) x19 p5)) + (F4 (1 : Int32) x21 p5)))]))
    obtain ⟨v41, _, ⟨T41, L41, k41, n41⟩, -, X41, ⟨Lc41, hQ41, l41, y41, z41⟩, st41⟩ := Jvm.LawKit.callS X40 hx (y := (⟨"com/example/ruled_ledger/ruledledger/rules/SuperclassForestStartAbovePinLaw", "le", "(ZII)I"⟩ : MethodName)) hown (mvT hZ (hw _ (List.mem_of_getElem? (i := 12) rfl))) (mvT hZ (hw _ (List.mem_of_getElem? (i := 13) rfl))) (mvT hZ (hw _ (List.mem_of_getElem? (i := 9) rfl))) (mvT hZ (hw _ (List.mem_of_getElem? (i := 14) rfl))) (by decide) (backOf (W := 1) (rm4 l Z a0 hw [] (0 : Int32) x17 p5 T22.heap n0 Zk22 ) hZ (hw _ (List.mem_of_getElem? (i := 14) rfl)) (hw _ (List.mem_of_getElem? (i := 9) rfl)) (by decide) (by decide)) (g := (mkF m 176 #[.val (.int p1), .val (.int p2), .val (.int p3), .val (.int p4), .val (.int p5), .val (.int p6), .val (.int (3 : Int32)), .val (.int x3), .val (.int x5), .val (.int x7), .val (.int x9), .val (.int x11), .val (.int x13), .val (.int x15), .val (.int x17), .val (.int x19), .val (.int x21), .val (.ref r22), .unset] [(.int p5), (.int x17), (.int (0 : Int32)), (.int (((F4 (1 : Int32) x11 p5) + (F4 (1 : Int32) x19 p5)) + (F4 (1 : Int32) x21 p5)))])) rfl (by rw [hml]; rfl) (argsL := [(.int (0 : Int32)), (.int x17), (.int p5)]) (rest := [(.int (((F4 (1 : Int32) x11 p5) + (F4 (1 : Int32) x19 p5)) + (F4 (1 : Int32) x21 p5)))]) (lenOf pd_2 rfl) rfl (by show 2 * 0 + _ ≤ _; exact Nat.le_of_eq rfl) (hb hby at_176) (fun _ _ => ⟨rfl, e40, (by decide : 1 + 0 ≤ _), (by decide : 4 + 0 ≤ _)⟩)
    dsimp only [Pt.U, Pt.locs, Pt.cells, Pt.slots] at X41 l41 y41 z41 st41 hQ41
    subst l41 y41 z41
    refine Done.step st41 ?_
    obtain ⟨rfl, N41q, e41⟩ := hQ41
    have N41 := Fr.app N40 N41q
    show Done p e below s _ _ _ (T41.setTop (mkF m 179 #[.val (.int p1), .val (.int p2), .val (.int p3), .val (.int p4), .val (.int p5), .val (.int p6), .val (.int (3 : Int32)), .val (.int x3), .val (.int x5), .val (.int x7), .val (.int x9), .val (.int x11), .val (.int x13), .val (.int x15), .val (.int x17), .val (.int x19), .val (.int x21), .val (.ref r22), .unset] [(.int (F4 (0 : Int32) x17 p5)), (.int (((F4 (1 : Int32) x11 p5) + (F4 (1 : Int32) x19 p5)) + (F4 (1 : Int32) x21 p5)))]))
    refine Done.step (fun t k => XS.iadd X41.here hx rfl (hb hby at_179) rfl k) ?_
    show Done p e below s _ _ _ (T41.setTop (mkF m 180 #[.val (.int p1), .val (.int p2), .val (.int p3), .val (.int p4), .val (.int p5), .val (.int p6), .val (.int (3 : Int32)), .val (.int x3), .val (.int x5), .val (.int x7), .val (.int x9), .val (.int x11), .val (.int x13), .val (.int x15), .val (.int x17), .val (.int x19), .val (.int x21), .val (.ref r22), .unset] [(.int ((((F4 (1 : Int32) x11 p5) + (F4 (1 : Int32) x19 p5)) + (F4 (1 : Int32) x21 p5)) + (F4 (0 : Int32) x17 p5)))]))
    refine Done.step (fun t k => XS.istore X41.here hx rfl (hb hby at_180) rfl (l' := #[.val (.int p1), .val (.int p2), .val (.int p3), .val (.int p4), .val (.int p5), .val (.int p6), .val (.int (3 : Int32)), .val (.int x3), .val (.int x5), .val (.int x7), .val (.int x9), .val (.int x11), .val (.int x13), .val (.int x15), .val (.int x17), .val (.int x19), .val (.int x21), .val (.ref r22), .val (.int ((((F4 (1 : Int32) x11 p5) + (F4 (1 : Int32) x19 p5)) + (F4 (1 : Int32) x21 p5)) + (F4 (0 : Int32) x17 p5)))]) rfl k) ?_
    show Done p e below s _ _ _ (T41.setTop (mkF m 182 #[.val (.int p1), .val (.int p2), .val (.int p3), .val (.int p4), .val (.int p5), .val (.int p6), .val (.int (3 : Int32)), .val (.int x3), .val (.int x5), .val (.int x7), .val (.int x9), .val (.int x11), .val (.int x13), .val (.int x15), .val (.int x17), .val (.int x19), .val (.int x21), .val (.ref r22), .val (.int ((((F4 (1 : Int32) x11 p5) + (F4 (1 : Int32) x19 p5)) + (F4 (1 : Int32) x21 p5)) + (F4 (0 : Int32) x17 p5)))] []))
    refine Done.step (fun t k => XS.aload X41.here hx rfl (hb hby at_182) rfl rfl k) ?_
    show Done p e below s _ _ _ (T41.setTop (mkF m 184 #[.val (.int p1), .val (.int p2), .val (.int p3), .val (.int p4), .val (.int p5), .val (.int p6), .val (.int (3 : Int32)), .val (.int x3), .val (.int x5), .val (.int x7), .val (.int x9), .val (.int x11), .val (.int x13), .val (.int x15), .val (.int x17), .val (.int x19), .val (.int x21), .val (.ref r22), .val (.int ((((F4 (1 : Int32) x11 p5) + (F4 (1 : Int32) x19 p5)) + (F4 (1 : Int32) x21 p5)) + (F4 (0 : Int32) x17 p5)))] [(.ref r22)]))
    refine Done.step (fun t k => XS.iload X41.here hx rfl (hb hby at_184) rfl k) ?_
    show Done p e below s _ _ _ (T41.setTop (mkF m 186 #[.val (.int p1), .val (.int p2), .val (.int p3), .val (.int p4), .val (.int p5), .val (.int p6), .val (.int (3 : Int32)), .val (.int x3), .val (.int x5), .val (.int x7), .val (.int x9), .val (.int x11), .val (.int x13), .val (.int x15), .val (.int x17), .val (.int x19), .val (.int x21), .val (.ref r22), .val (.int ((((F4 (1 : Int32) x11 p5) + (F4 (1 : Int32) x19 p5)) + (F4 (1 : Int32) x21 p5)) + (F4 (0 : Int32) x17 p5)))] [(.int p5), (.ref r22)]))
    obtain ⟨v42, _, ⟨T42, L42, k42, n42⟩, -, X42, ⟨Lc42, hQ42, l42, y42, z42⟩, st42⟩ := Jvm.LawKit.callS X41 hx (y := (⟨"com/example/ruled_ledger/ruledledger/rules/SuperclassForest", "startAbove", "([II)I"⟩ : MethodName)) hown (mvT hZ (hw _ (List.mem_of_getElem? (i := 15) rfl))) (mvT hZ (hw _ (List.mem_of_getElem? (i := 16) rfl))) (mvT hZ (hw _ (List.mem_of_getElem? (i := 17) rfl))) (mvT hZ (hw _ (List.mem_of_getElem? (i := 18) rfl))) (by decide) (backOf (W := 0) (rm5 l Z a0 hw [] r22 p5 (MK (3 : Int32) x11 x19 x21 x17) T22.heap n0 Zk22 x22 (own_asc3 _ _ _ _ hsrt) (Nat.le_of_ble_eq_true rfl)) hZ (hw _ (List.mem_of_getElem? (i := 18) rfl)) (hw _ (List.mem_of_getElem? (i := 17) rfl)) (by decide) (by decide)) (g := (mkF m 186 #[.val (.int p1), .val (.int p2), .val (.int p3), .val (.int p4), .val (.int p5), .val (.int p6), .val (.int (3 : Int32)), .val (.int x3), .val (.int x5), .val (.int x7), .val (.int x9), .val (.int x11), .val (.int x13), .val (.int x15), .val (.int x17), .val (.int x19), .val (.int x21), .val (.ref r22), .val (.int ((((F4 (1 : Int32) x11 p5) + (F4 (1 : Int32) x19 p5)) + (F4 (1 : Int32) x21 p5)) + (F4 (0 : Int32) x17 p5)))] [(.int p5), (.ref r22)])) rfl (by rw [hml]; rfl) (argsL := [(.ref r22), (.int p5)]) (rest := []) (lenOf pd_3 rfl) rfl (by show 2 * 0 + _ ≤ _; exact Nat.le_of_eq rfl) (hb hby at_186) (fun _ _ => ⟨rfl, e41, (by decide : 1 + 0 ≤ _), (by decide : 4 + 0 ≤ _)⟩)
    dsimp only [Pt.U, Pt.locs, Pt.cells, Pt.slots] at X42 l42 y42 z42 st42 hQ42
    subst l42 y42 z42
    refine Done.step st42 ?_
    obtain ⟨⟨kk, rfl, hup⟩, N42q, e42⟩ := hQ42
    have N42 := Fr.app N41 N42q
    show Done p e below s _ _ _ (T42.setTop (mkF m 189 #[.val (.int p1), .val (.int p2), .val (.int p3), .val (.int p4), .val (.int p5), .val (.int p6), .val (.int (3 : Int32)), .val (.int x3), .val (.int x5), .val (.int x7), .val (.int x9), .val (.int x11), .val (.int x13), .val (.int x15), .val (.int x17), .val (.int x19), .val (.int x21), .val (.ref r22), .val (.int ((((F4 (1 : Int32) x11 p5) + (F4 (1 : Int32) x19 p5)) + (F4 (1 : Int32) x21 p5)) + (F4 (0 : Int32) x17 p5)))] [(.int kk)]))
    refine Done.step (fun t k => XS.iload X42.here hx rfl (hb hby at_189) rfl k) ?_
    show Done p e below s _ _ _ (T42.setTop (mkF m 191 #[.val (.int p1), .val (.int p2), .val (.int p3), .val (.int p4), .val (.int p5), .val (.int p6), .val (.int (3 : Int32)), .val (.int x3), .val (.int x5), .val (.int x7), .val (.int x9), .val (.int x11), .val (.int x13), .val (.int x15), .val (.int x17), .val (.int x19), .val (.int x21), .val (.ref r22), .val (.int ((((F4 (1 : Int32) x11 p5) + (F4 (1 : Int32) x19 p5)) + (F4 (1 : Int32) x21 p5)) + (F4 (0 : Int32) x17 p5)))] [(.int ((((F4 (1 : Int32) x11 p5) + (F4 (1 : Int32) x19 p5)) + (F4 (1 : Int32) x21 p5)) + (F4 (0 : Int32) x17 p5))), (.int kk)]))
    refine Done.step (fun t k => XS.icmpNo X42.here hx rfl (hb hby at_191) rfl (teq (own_cnt3 x11 x19 x21 x17 p5 kk hup)).2 k) ?_
    show Done p e below s _ _ _ (T42.setTop (mkF m 194 #[.val (.int p1), .val (.int p2), .val (.int p3), .val (.int p4), .val (.int p5), .val (.int p6), .val (.int (3 : Int32)), .val (.int x3), .val (.int x5), .val (.int x7), .val (.int x9), .val (.int x11), .val (.int x13), .val (.int x15), .val (.int x17), .val (.int x19), .val (.int x21), .val (.ref r22), .val (.int ((((F4 (1 : Int32) x11 p5) + (F4 (1 : Int32) x19 p5)) + (F4 (1 : Int32) x21 p5)) + (F4 (0 : Int32) x17 p5)))] []))
    refine Done.step (fun t k => XS.iconst X42.here hx rfl (hb hby at_194) k) ?_
    show Done p e below s _ _ _ (T42.setTop (mkF m 195 #[.val (.int p1), .val (.int p2), .val (.int p3), .val (.int p4), .val (.int p5), .val (.int p6), .val (.int (3 : Int32)), .val (.int x3), .val (.int x5), .val (.int x7), .val (.int x9), .val (.int x11), .val (.int x13), .val (.int x15), .val (.int x17), .val (.int x19), .val (.int x21), .val (.ref r22), .val (.int ((((F4 (1 : Int32) x11 p5) + (F4 (1 : Int32) x19 p5)) + (F4 (1 : Int32) x21 p5)) + (F4 (0 : Int32) x17 p5)))] [(.int (1 : Int32))]))
    refine Done.step (fun t k => XS.goto X42.here hx rfl (pc0 := 195) (pc' := 199) rfl (hb hby at_195) (by decide) (by decide) k) ?_
    show Done p e below s _ _ _ (T42.setTop (mkF m 199 #[.val (.int p1), .val (.int p2), .val (.int p3), .val (.int p4), .val (.int p5), .val (.int p6), .val (.int (3 : Int32)), .val (.int x3), .val (.int x5), .val (.int x7), .val (.int x9), .val (.int x11), .val (.int x13), .val (.int x15), .val (.int x17), .val (.int x19), .val (.int x21), .val (.ref r22), .val (.int ((((F4 (1 : Int32) x11 p5) + (F4 (1 : Int32) x19 p5)) + (F4 (1 : Int32) x21 p5)) + (F4 (0 : Int32) x17 p5)))] [(.int (1 : Int32))]))
    exact Done.narr X42 hx hlk hret (by simp) (hb hby at_199) (by decide) (by decide) ⟨rfl, N42⟩
  · show Done p e below s _ _ _ (T22.setTop (mkF m 106 #[.val (.int p1), .val (.int p2), .val (.int p3), .val (.int p4), .val (.int p5), .val (.int p6), .val (.int (4 : Int32)), .val (.int x3), .val (.int x5), .val (.int x7), .val (.int x9), .val (.int x11), .val (.int x13), .val (.int x15), .val (.int x17), .val (.int x19), .val (.int x21), .val (.ref r22), .unset] []))
    refine Done.step (fun t k => XS.iload X22.here hx rfl (hb hby at_106) rfl k) ?_
    show Done p e below s _ _ _ (T22.setTop (mkF m 108 #[.val (.int p1), .val (.int p2), .val (.int p3), .val (.int p4), .val (.int p5), .val (.int p6), .val (.int (4 : Int32)), .val (.int x3), .val (.int x5), .val (.int x7), .val (.int x9), .val (.int x11), .val (.int x13), .val (.int x15), .val (.int x17), .val (.int x19), .val (.int x21), .val (.ref r22), .unset] [(.int (4 : Int32))]))
    refine Done.step (fun t k => XS.ifNo X22.here hx rfl (hb hby at_108) rfl ((if0 _ _).trans (tlt (by decide)).2.2.2) k) ?_
    show Done p e below s _ _ _ (T22.setTop (mkF m 111 #[.val (.int p1), .val (.int p2), .val (.int p3), .val (.int p4), .val (.int p5), .val (.int p6), .val (.int (4 : Int32)), .val (.int x3), .val (.int x5), .val (.int x7), .val (.int x9), .val (.int x11), .val (.int x13), .val (.int x15), .val (.int x17), .val (.int x19), .val (.int x21), .val (.ref r22), .unset] []))
    refine Done.step (fun t k => XS.iconst X22.here hx rfl (hb hby at_111) k) ?_
    show Done p e below s _ _ _ (T22.setTop (mkF m 112 #[.val (.int p1), .val (.int p2), .val (.int p3), .val (.int p4), .val (.int p5), .val (.int p6), .val (.int (4 : Int32)), .val (.int x3), .val (.int x5), .val (.int x7), .val (.int x9), .val (.int x11), .val (.int x13), .val (.int x15), .val (.int x17), .val (.int x19), .val (.int x21), .val (.ref r22), .unset] [(.int (1 : Int32))]))
    refine Done.step (fun t k => XS.goto X22.here hx rfl (pc0 := 112) (pc' := 116) rfl (hb hby at_112) (by decide) (by decide) k) ?_
    show Done p e below s _ _ _ (T22.setTop (mkF m 116 #[.val (.int p1), .val (.int p2), .val (.int p3), .val (.int p4), .val (.int p5), .val (.int p6), .val (.int (4 : Int32)), .val (.int x3), .val (.int x5), .val (.int x7), .val (.int x9), .val (.int x11), .val (.int x13), .val (.int x15), .val (.int x17), .val (.int x19), .val (.int x21), .val (.ref r22), .unset] [(.int (1 : Int32))]))
    refine Done.step (fun t k => XS.iload X22.here hx rfl (hb hby at_116) rfl k) ?_
    show Done p e below s _ _ _ (T22.setTop (mkF m 118 #[.val (.int p1), .val (.int p2), .val (.int p3), .val (.int p4), .val (.int p5), .val (.int p6), .val (.int (4 : Int32)), .val (.int x3), .val (.int x5), .val (.int x7), .val (.int x9), .val (.int x11), .val (.int x13), .val (.int x15), .val (.int x17), .val (.int x19), .val (.int x21), .val (.ref r22), .unset] [(.int x11), (.int (1 : Int32))]))
    refine Done.step (fun t k => XS.iload X22.here hx rfl (hb hby at_118) rfl k) ?_
    show Done p e below s _ _ _ (T22.setTop (mkF m 120 #[.val (.int p1), .val (.int p2), .val (.int p3), .val (.int p4), .val (.int p5), .val (.int p6), .val (.int (4 : Int32)), .val (.int x3), .val (.int x5), .val (.int x7), .val (.int x9), .val (.int x11), .val (.int x13), .val (.int x15), .val (.int x17), .val (.int x19), .val (.int x21), .val (.ref r22), .unset] [(.int p5), (.int x11), (.int (1 : Int32))]))
    obtain ⟨v43, _, ⟨T43, L43, k43, n43⟩, -, X43, ⟨Lc43, hQ43, l43, y43, z43⟩, st43⟩ := Jvm.LawKit.callS X22 hx (y := (⟨"com/example/ruled_ledger/ruledledger/rules/SuperclassForestStartAbovePinLaw", "le", "(ZII)I"⟩ : MethodName)) hown (mvT hZ (hw _ (List.mem_of_getElem? (i := 12) rfl))) (mvT hZ (hw _ (List.mem_of_getElem? (i := 13) rfl))) (mvT hZ (hw _ (List.mem_of_getElem? (i := 9) rfl))) (mvT hZ (hw _ (List.mem_of_getElem? (i := 14) rfl))) (by decide) (backOf (W := 0) (rm4 l Z a0 hw [] (1 : Int32) x11 p5 T22.heap n0 Zk22 ) hZ (hw _ (List.mem_of_getElem? (i := 14) rfl)) (hw _ (List.mem_of_getElem? (i := 9) rfl)) (by decide) (by decide)) (g := (mkF m 120 #[.val (.int p1), .val (.int p2), .val (.int p3), .val (.int p4), .val (.int p5), .val (.int p6), .val (.int (4 : Int32)), .val (.int x3), .val (.int x5), .val (.int x7), .val (.int x9), .val (.int x11), .val (.int x13), .val (.int x15), .val (.int x17), .val (.int x19), .val (.int x21), .val (.ref r22), .unset] [(.int p5), (.int x11), (.int (1 : Int32))])) rfl (by rw [hml]; rfl) (argsL := [(.int (1 : Int32)), (.int x11), (.int p5)]) (rest := []) (lenOf pd_2 rfl) rfl (by show 2 * 0 + _ ≤ _; exact Nat.le_of_eq rfl) (hb hby at_120) (fun _ _ => ⟨rfl, rfl, (by decide : 1 + 0 ≤ _), (by decide : 4 + 0 ≤ _)⟩)
    dsimp only [Pt.U, Pt.locs, Pt.cells, Pt.slots] at X43 l43 y43 z43 st43 hQ43
    subst l43 y43 z43
    refine Done.step st43 ?_
    obtain ⟨rfl, N43q, e43⟩ := hQ43
    have N43 := Fr.app N22 N43q
    show Done p e below s _ _ _ (T43.setTop (mkF m 123 #[.val (.int p1), .val (.int p2), .val (.int p3), .val (.int p4), .val (.int p5), .val (.int p6), .val (.int (4 : Int32)), .val (.int x3), .val (.int x5), .val (.int x7), .val (.int x9), .val (.int x11), .val (.int x13), .val (.int x15), .val (.int x17), .val (.int x19), .val (.int x21), .val (.ref r22), .unset] [(.int (F4 (1 : Int32) x11 p5))]))
    refine Done.step (fun t k => XS.iload X43.here hx rfl (hb hby at_123) rfl k) ?_
    show Done p e below s _ _ _ (T43.setTop (mkF m 125 #[.val (.int p1), .val (.int p2), .val (.int p3), .val (.int p4), .val (.int p5), .val (.int p6), .val (.int (4 : Int32)), .val (.int x3), .val (.int x5), .val (.int x7), .val (.int x9), .val (.int x11), .val (.int x13), .val (.int x15), .val (.int x17), .val (.int x19), .val (.int x21), .val (.ref r22), .unset] [(.int (4 : Int32)), (.int (F4 (1 : Int32) x11 p5))]))
    refine Done.step (fun t k => XS.iconst X43.here hx rfl (hb hby at_125) k) ?_
    show Done p e below s _ _ _ (T43.setTop (mkF m 126 #[.val (.int p1), .val (.int p2), .val (.int p3), .val (.int p4), .val (.int p5), .val (.int p6), .val (.int (4 : Int32)), .val (.int x3), .val (.int x5), .val (.int x7), .val (.int x9), .val (.int x11), .val (.int x13), .val (.int x15), .val (.int x17), .val (.int x19), .val (.int x21), .val (.ref r22), .unset] [(.int (1 : Int32)), (.int (4 : Int32)), (.int (F4 (1 : Int32) x11 p5))]))
    refine Done.step (fun t k => XS.icmpNo X43.here hx rfl (hb hby at_126) rfl (tlt (by decide)).2.2.2 k) ?_
    show Done p e below s _ _ _ (T43.setTop (mkF m 129 #[.val (.int p1), .val (.int p2), .val (.int p3), .val (.int p4), .val (.int p5), .val (.int p6), .val (.int (4 : Int32)), .val (.int x3), .val (.int x5), .val (.int x7), .val (.int x9), .val (.int x11), .val (.int x13), .val (.int x15), .val (.int x17), .val (.int x19), .val (.int x21), .val (.ref r22), .unset] [(.int (F4 (1 : Int32) x11 p5))]))
    refine Done.step (fun t k => XS.iconst X43.here hx rfl (hb hby at_129) k) ?_
    show Done p e below s _ _ _ (T43.setTop (mkF m 130 #[.val (.int p1), .val (.int p2), .val (.int p3), .val (.int p4), .val (.int p5), .val (.int p6), .val (.int (4 : Int32)), .val (.int x3), .val (.int x5), .val (.int x7), .val (.int x9), .val (.int x11), .val (.int x13), .val (.int x15), .val (.int x17), .val (.int x19), .val (.int x21), .val (.ref r22), .unset] [(.int (1 : Int32)), (.int (F4 (1 : Int32) x11 p5))]))
    refine Done.step (fun t k => XS.goto X43.here hx rfl (pc0 := 130) (pc' := 134) rfl (hb hby at_130) (by decide) (by decide) k) ?_
    show Done p e below s _ _ _ (T43.setTop (mkF m 134 #[.val (.int p1), .val (.int p2), .val (.int p3), .val (.int p4), .val (.int p5), .val (.int p6), .val (.int (4 : Int32)), .val (.int x3), .val (.int x5), .val (.int x7), .val (.int x9), .val (.int x11), .val (.int x13), .val (.int x15), .val (.int x17), .val (.int x19), .val (.int x21), .val (.ref r22), .unset] [(.int (1 : Int32)), (.int (F4 (1 : Int32) x11 p5))]))
    refine Done.step (fun t k => XS.iload X43.here hx rfl (hb hby at_134) rfl k) ?_
    show Done p e below s _ _ _ (T43.setTop (mkF m 136 #[.val (.int p1), .val (.int p2), .val (.int p3), .val (.int p4), .val (.int p5), .val (.int p6), .val (.int (4 : Int32)), .val (.int x3), .val (.int x5), .val (.int x7), .val (.int x9), .val (.int x11), .val (.int x13), .val (.int x15), .val (.int x17), .val (.int x19), .val (.int x21), .val (.ref r22), .unset] [(.int x19), (.int (1 : Int32)), (.int (F4 (1 : Int32) x11 p5))]))
    refine Done.step (fun t k => XS.iload X43.here hx rfl (hb hby at_136) rfl k) ?_
    show Done p e below s _ _ _ (T43.setTop (mkF m 138 #[.val (.int p1), .val (.int p2), .val (.int p3), .val (.int p4), .val (.int p5), .val (.int p6), .val (.int (4 : Int32)), .val (.int x3), .val (.int x5), .val (.int x7), .val (.int x9), .val (.int x11), .val (.int x13), .val (.int x15), .val (.int x17), .val (.int x19), .val (.int x21), .val (.ref r22), .unset] [(.int p5), (.int x19), (.int (1 : Int32)), (.int (F4 (1 : Int32) x11 p5))]))
    obtain ⟨v44, _, ⟨T44, L44, k44, n44⟩, -, X44, ⟨Lc44, hQ44, l44, y44, z44⟩, st44⟩ := Jvm.LawKit.callS X43 hx (y := (⟨"com/example/ruled_ledger/ruledledger/rules/SuperclassForestStartAbovePinLaw", "le", "(ZII)I"⟩ : MethodName)) hown (mvT hZ (hw _ (List.mem_of_getElem? (i := 12) rfl))) (mvT hZ (hw _ (List.mem_of_getElem? (i := 13) rfl))) (mvT hZ (hw _ (List.mem_of_getElem? (i := 9) rfl))) (mvT hZ (hw _ (List.mem_of_getElem? (i := 14) rfl))) (by decide) (backOf (W := 1) (rm4 l Z a0 hw [] (1 : Int32) x19 p5 T22.heap n0 Zk22 ) hZ (hw _ (List.mem_of_getElem? (i := 14) rfl)) (hw _ (List.mem_of_getElem? (i := 9) rfl)) (by decide) (by decide)) (g := (mkF m 138 #[.val (.int p1), .val (.int p2), .val (.int p3), .val (.int p4), .val (.int p5), .val (.int p6), .val (.int (4 : Int32)), .val (.int x3), .val (.int x5), .val (.int x7), .val (.int x9), .val (.int x11), .val (.int x13), .val (.int x15), .val (.int x17), .val (.int x19), .val (.int x21), .val (.ref r22), .unset] [(.int p5), (.int x19), (.int (1 : Int32)), (.int (F4 (1 : Int32) x11 p5))])) rfl (by rw [hml]; rfl) (argsL := [(.int (1 : Int32)), (.int x19), (.int p5)]) (rest := [(.int (F4 (1 : Int32) x11 p5))]) (lenOf pd_2 rfl) rfl (by show 2 * 0 + _ ≤ _; exact Nat.le_of_eq rfl) (hb hby at_138) (fun _ _ => ⟨rfl, e43, (by decide : 1 + 0 ≤ _), (by decide : 4 + 0 ≤ _)⟩)
    dsimp only [Pt.U, Pt.locs, Pt.cells, Pt.slots] at X44 l44 y44 z44 st44 hQ44
    subst l44 y44 z44
    refine Done.step st44 ?_
    obtain ⟨rfl, N44q, e44⟩ := hQ44
    have N44 := Fr.app N43 N44q
    show Done p e below s _ _ _ (T44.setTop (mkF m 141 #[.val (.int p1), .val (.int p2), .val (.int p3), .val (.int p4), .val (.int p5), .val (.int p6), .val (.int (4 : Int32)), .val (.int x3), .val (.int x5), .val (.int x7), .val (.int x9), .val (.int x11), .val (.int x13), .val (.int x15), .val (.int x17), .val (.int x19), .val (.int x21), .val (.ref r22), .unset] [(.int (F4 (1 : Int32) x19 p5)), (.int (F4 (1 : Int32) x11 p5))]))
    refine Done.step (fun t k => XS.iadd X44.here hx rfl (hb hby at_141) rfl k) ?_
    show Done p e below s _ _ _ (T44.setTop (mkF m 142 #[.val (.int p1), .val (.int p2), .val (.int p3), .val (.int p4), .val (.int p5), .val (.int p6), .val (.int (4 : Int32)), .val (.int x3), .val (.int x5), .val (.int x7), .val (.int x9), .val (.int x11), .val (.int x13), .val (.int x15), .val (.int x17), .val (.int x19), .val (.int x21), .val (.ref r22), .unset] [(.int ((F4 (1 : Int32) x11 p5) + (F4 (1 : Int32) x19 p5)))]))
    refine Done.step (fun t k => XS.iload X44.here hx rfl (hb hby at_142) rfl k) ?_
    show Done p e below s _ _ _ (T44.setTop (mkF m 144 #[.val (.int p1), .val (.int p2), .val (.int p3), .val (.int p4), .val (.int p5), .val (.int p6), .val (.int (4 : Int32)), .val (.int x3), .val (.int x5), .val (.int x7), .val (.int x9), .val (.int x11), .val (.int x13), .val (.int x15), .val (.int x17), .val (.int x19), .val (.int x21), .val (.ref r22), .unset] [(.int (4 : Int32)), (.int ((F4 (1 : Int32) x11 p5) + (F4 (1 : Int32) x19 p5)))]))
    refine Done.step (fun t k => XS.iconst X44.here hx rfl (hb hby at_144) k) ?_
    show Done p e below s _ _ _ (T44.setTop (mkF m 145 #[.val (.int p1), .val (.int p2), .val (.int p3), .val (.int p4), .val (.int p5), .val (.int p6), .val (.int (4 : Int32)), .val (.int x3), .val (.int x5), .val (.int x7), .val (.int x9), .val (.int x11), .val (.int x13), .val (.int x15), .val (.int x17), .val (.int x19), .val (.int x21), .val (.ref r22), .unset] [(.int (2 : Int32)), (.int (4 : Int32)), (.int ((F4 (1 : Int32) x11 p5) + (F4 (1 : Int32) x19 p5)))]))
    refine Done.step (fun t k => XS.icmpNo X44.here hx rfl (hb hby at_145) rfl (tlt (by decide)).2.2.2 k) ?_
    show Done p e below s _ _ _ (T44.setTop (mkF m 148 #[.val (.int p1), .val (.int p2), .val (.int p3), .val (.int p4), .val (.int p5), .val (.int p6), .val (.int (4 : Int32)), .val (.int x3), .val (.int x5), .val (.int x7), .val (.int x9), .val (.int x11), .val (.int x13), .val (.int x15), .val (.int x17), .val (.int x19), .val (.int x21), .val (.ref r22), .unset] [(.int ((F4 (1 : Int32) x11 p5) + (F4 (1 : Int32) x19 p5)))]))
    refine Done.step (fun t k => XS.iconst X44.here hx rfl (hb hby at_148) k) ?_
    show Done p e below s _ _ _ (T44.setTop (mkF m 149 #[.val (.int p1), .val (.int p2), .val (.int p3), .val (.int p4), .val (.int p5), .val (.int p6), .val (.int (4 : Int32)), .val (.int x3), .val (.int x5), .val (.int x7), .val (.int x9), .val (.int x11), .val (.int x13), .val (.int x15), .val (.int x17), .val (.int x19), .val (.int x21), .val (.ref r22), .unset] [(.int (1 : Int32)), (.int ((F4 (1 : Int32) x11 p5) + (F4 (1 : Int32) x19 p5)))]))
    refine Done.step (fun t k => XS.goto X44.here hx rfl (pc0 := 149) (pc' := 153) rfl (hb hby at_149) (by decide) (by decide) k) ?_
    show Done p e below s _ _ _ (T44.setTop (mkF m 153 #[.val (.int p1), .val (.int p2), .val (.int p3), .val (.int p4), .val (.int p5), .val (.int p6), .val (.int (4 : Int32)), .val (.int x3), .val (.int x5), .val (.int x7), .val (.int x9), .val (.int x11), .val (.int x13), .val (.int x15), .val (.int x17), .val (.int x19), .val (.int x21), .val (.ref r22), .unset] [(.int (1 : Int32)), (.int ((F4 (1 : Int32) x11 p5) + (F4 (1 : Int32) x19 p5)))]))
    refine Done.step (fun t k => XS.iload X44.here hx rfl (hb hby at_153) rfl k) ?_
    show Done p e below s _ _ _ (T44.setTop (mkF m 155 #[.val (.int p1), .val (.int p2), .val (.int p3), .val (.int p4), .val (.int p5), .val (.int p6), .val (.int (4 : Int32)), .val (.int x3), .val (.int x5), .val (.int x7), .val (.int x9), .val (.int x11), .val (.int x13), .val (.int x15), .val (.int x17), .val (.int x19), .val (.int x21), .val (.ref r22), .unset] [(.int x21), (.int (1 : Int32)), (.int ((F4 (1 : Int32) x11 p5) + (F4 (1 : Int32) x19 p5)))]))
    refine Done.step (fun t k => XS.iload X44.here hx rfl (hb hby at_155) rfl k) ?_
    show Done p e below s _ _ _ (T44.setTop (mkF m 157 #[.val (.int p1), .val (.int p2), .val (.int p3), .val (.int p4), .val (.int p5), .val (.int p6), .val (.int (4 : Int32)), .val (.int x3), .val (.int x5), .val (.int x7), .val (.int x9), .val (.int x11), .val (.int x13), .val (.int x15), .val (.int x17), .val (.int x19), .val (.int x21), .val (.ref r22), .unset] [(.int p5), (.int x21), (.int (1 : Int32)), (.int ((F4 (1 : Int32) x11 p5) + (F4 (1 : Int32) x19 p5)))]))
    obtain ⟨v45, _, ⟨T45, L45, k45, n45⟩, -, X45, ⟨Lc45, hQ45, l45, y45, z45⟩, st45⟩ := Jvm.LawKit.callS X44 hx (y := (⟨"com/example/ruled_ledger/ruledledger/rules/SuperclassForestStartAbovePinLaw", "le", "(ZII)I"⟩ : MethodName)) hown (mvT hZ (hw _ (List.mem_of_getElem? (i := 12) rfl))) (mvT hZ (hw _ (List.mem_of_getElem? (i := 13) rfl))) (mvT hZ (hw _ (List.mem_of_getElem? (i := 9) rfl))) (mvT hZ (hw _ (List.mem_of_getElem? (i := 14) rfl))) (by decide) (backOf (W := 1) (rm4 l Z a0 hw [] (1 : Int32) x21 p5 T22.heap n0 Zk22 ) hZ (hw _ (List.mem_of_getElem? (i := 14) rfl)) (hw _ (List.mem_of_getElem? (i := 9) rfl)) (by decide) (by decide)) (g := (mkF m 157 #[.val (.int p1), .val (.int p2), .val (.int p3), .val (.int p4), .val (.int p5), .val (.int p6), .val (.int (4 : Int32)), .val (.int x3), .val (.int x5), .val (.int x7), .val (.int x9), .val (.int x11), .val (.int x13), .val (.int x15), .val (.int x17), .val (.int x19), .val (.int x21), .val (.ref r22), .unset] [(.int p5), (.int x21), (.int (1 : Int32)), (.int ((F4 (1 : Int32) x11 p5) + (F4 (1 : Int32) x19 p5)))])) rfl (by rw [hml]; rfl) (argsL := [(.int (1 : Int32)), (.int x21), (.int p5)]) (rest := [(.int ((F4 (1 : Int32) x11 p5) + (F4 (1 : Int32) x19 p5)))]) (lenOf pd_2 rfl) rfl (by show 2 * 0 + _ ≤ _; exact Nat.le_of_eq rfl) (hb hby at_157) (fun _ _ => ⟨rfl, e44, (by decide : 1 + 0 ≤ _), (by decide : 4 + 0 ≤ _)⟩)
    dsimp only [Pt.U, Pt.locs, Pt.cells, Pt.slots] at X45 l45 y45 z45 st45 hQ45
    subst l45 y45 z45
    refine Done.step st45 ?_
    obtain ⟨rfl, N45q, e45⟩ := hQ45
    have N45 := Fr.app N44 N45q
    show Done p e below s _ _ _ (T45.setTop (mkF m 160 #[.val (.int p1), .val (.int p2), .val (.int p3), .val (.int p4), .val (.int p5), .val (.int p6), .val (.int (4 : Int32)), .val (.int x3), .val (.int x5), .val (.int x7), .val (.int x9), .val (.int x11), .val (.int x13), .val (.int x15), .val (.int x17), .val (.int x19), .val (.int x21), .val (.ref r22), .unset] [(.int (F4 (1 : Int32) x21 p5)), (.int ((F4 (1 : Int32) x11 p5) + (F4 (1 : Int32) x19 p5)))]))
    refine Done.step (fun t k => XS.iadd X45.here hx rfl (hb hby at_160) rfl k) ?_
    show Done p e below s _ _ _ (T45.setTop (mkF m 161 #[.val (.int p1), .val (.int p2), .val (.int p3), .val (.int p4), .val (.int p5), .val (.int p6), .val (.int (4 : Int32)), .val (.int x3), .val (.int x5), .val (.int x7), .val (.int x9), .val (.int x11), .val (.int x13), .val (.int x15), .val (.int x17), .val (.int x19), .val (.int x21), .val (.ref r22), .unset] [(.int (((F4 (1 : Int32) x11 p5) + (F4 (1 : Int32) x19 p5)) + (F4 (1 : Int32) x21 p5)))]))
    refine Done.step (fun t k => XS.iload X45.here hx rfl (hb hby at_161) rfl k) ?_
    show Done p e below s _ _ _ (T45.setTop (mkF m 163 #[.val (.int p1), .val (.int p2), .val (.int p3), .val (.int p4), .val (.int p5), .val (.int p6), .val (.int (4 : Int32)), .val (.int x3), .val (.int x5), .val (.int x7), .val (.int x9), .val (.int x11), .val (.int x13), .val (.int x15), .val (.int x17), .val (.int x19), .val (.int x21), .val (.ref r22), .unset] [(.int (4 : Int32)), (.int (((F4 (1 : Int32) x11 p5) + (F4 (1 : Int32) x19 p5)) + (F4 (1 : Int32) x21 p5)))]))
    refine Done.step (fun t k => XS.iconst X45.here hx rfl (hb hby at_163) k) ?_
    show Done p e below s _ _ _ (T45.setTop (mkF m 164 #[.val (.int p1), .val (.int p2), .val (.int p3), .val (.int p4), .val (.int p5), .val (.int p6), .val (.int (4 : Int32)), .val (.int x3), .val (.int x5), .val (.int x7), .val (.int x9), .val (.int x11), .val (.int x13), .val (.int x15), .val (.int x17), .val (.int x19), .val (.int x21), .val (.ref r22), .unset] [(.int (3 : Int32)), (.int (4 : Int32)), (.int (((F4 (1 : Int32) x11 p5) + (F4 (1 : Int32) x19 p5)) + (F4 (1 : Int32) x21 p5)))]))
    refine Done.step (fun t k => XS.icmpNo X45.here hx rfl (hb hby at_164) rfl (tlt (by decide)).2.2.2 k) ?_
    show Done p e below s _ _ _ (T45.setTop (mkF m 167 #[.val (.int p1), .val (.int p2), .val (.int p3), .val (.int p4), .val (.int p5), .val (.int p6), .val (.int (4 : Int32)), .val (.int x3), .val (.int x5), .val (.int x7), .val (.int x9), .val (.int x11), .val (.int x13), .val (.int x15), .val (.int x17), .val (.int x19), .val (.int x21), .val (.ref r22), .unset] [(.int (((F4 (1 : Int32) x11 p5) + (F4 (1 : Int32) x19 p5)) + (F4 (1 : Int32) x21 p5)))]))
    refine Done.step (fun t k => XS.iconst X45.here hx rfl (hb hby at_167) k) ?_
    show Done p e below s _ _ _ (T45.setTop (mkF m 168 #[.val (.int p1), .val (.int p2), .val (.int p3), .val (.int p4), .val (.int p5), .val (.int p6), .val (.int (4 : Int32)), .val (.int x3), .val (.int x5), .val (.int x7), .val (.int x9), .val (.int x11), .val (.int x13), .val (.int x15), .val (.int x17), .val (.int x19), .val (.int x21), .val (.ref r22), .unset] [(.int (1 : Int32)), (.int (((F4 (1 : Int32) x11 p5) + (F4 (1 : Int32) x19 p5)) + (F4 (1 : Int32) x21 p5)))]))
    refine Done.step (fun t k => XS.goto X45.here hx rfl (pc0 := 168) (pc' := 172) rfl (hb hby at_168) (by decide) (by decide) k) ?_
    show Done p e below s _ _ _ (T45.setTop (mkF m 172 #[.val (.int p1), .val (.int p2), .val (.int p3), .val (.int p4), .val (.int p5), .val (.int p6), .val (.int (4 : Int32)), .val (.int x3), .val (.int x5), .val (.int x7), .val (.int x9), .val (.int x11), .val (.int x13), .val (.int x15), .val (.int x17), .val (.int x19), .val (.int x21), .val (.ref r22), .unset] [(.int (1 : Int32)), (.int (((F4 (1 : Int32) x11 p5) + (F4 (1 : Int32) x19 p5)) + (F4 (1 : Int32) x21 p5)))]))
    refine Done.step (fun t k => XS.iload X45.here hx rfl (hb hby at_172) rfl k) ?_
    show Done p e below s _ _ _ (T45.setTop (mkF m 174 #[.val (.int p1), .val (.int p2), .val (.int p3), .val (.int p4), .val (.int p5), .val (.int p6), .val (.int (4 : Int32)), .val (.int x3), .val (.int x5), .val (.int x7), .val (.int x9), .val (.int x11), .val (.int x13), .val (.int x15), .val (.int x17), .val (.int x19), .val (.int x21), .val (.ref r22), .unset] [(.int x17), (.int (1 : Int32)), (.int (((F4 (1 : Int32) x11 p5) + (F4 (1 : Int32) x19 p5)) + (F4 (1 : Int32) x21 p5)))]))
    refine Done.step (fun t k => XS.iload X45.here hx rfl (hb hby at_174) rfl k) ?_
    show Done p e below s _ _ _ (T45.setTop (mkF m 176 #[.val (.int p1), .val (.int p2), .val (.int p3), .val (.int p4), .val (.int p5), .val (.int p6), .val (.int (4 : Int32)), .val (.int x3), .val (.int x5), .val (.int x7), .val (.int x9), .val (.int x11), .val (.int x13), .val (.int x15), .val (.int x17), .val (.int x19), .val (.int x21), .val (.ref r22), .unset] [(.int p5), (.int x17), (.int (1 : Int32)), (.int (((F4 (1 : Int32) x11 p5) + (F4 (1 : Int32) x19 p5)) + (F4 (1 : Int32) x21 p5)))]))
    obtain ⟨v46, _, ⟨T46, L46, k46, n46⟩, -, X46, ⟨Lc46, hQ46, l46, y46, z46⟩, st46⟩ := Jvm.LawKit.callS X45 hx (y := (⟨"com/example/ruled_ledger/ruledledger/rules/SuperclassForestStartAbovePinLaw", "le", "(ZII)I"⟩ : MethodName)) hown (mvT hZ (hw _ (List.mem_of_getElem? (i := 12) rfl))) (mvT hZ (hw _ (List.mem_of_getElem? (i := 13) rfl))) (mvT hZ (hw _ (List.mem_of_getElem? (i := 9) rfl))) (mvT hZ (hw _ (List.mem_of_getElem? (i := 14) rfl))) (by decide) (backOf (W := 1) (rm4 l Z a0 hw [] (1 : Int32) x17 p5 T22.heap n0 Zk22 ) hZ (hw _ (List.mem_of_getElem? (i := 14) rfl)) (hw _ (List.mem_of_getElem? (i := 9) rfl)) (by decide) (by decide)) (g := (mkF m 176 #[.val (.int p1), .val (.int p2), .val (.int p3), .val (.int p4), .val (.int p5), .val (.int p6), .val (.int (4 : Int32)), .val (.int x3), .val (.int x5), .val (.int x7), .val (.int x9), .val (.int x11), .val (.int x13), .val (.int x15), .val (.int x17), .val (.int x19), .val (.int x21), .val (.ref r22), .unset] [(.int p5), (.int x17), (.int (1 : Int32)), (.int (((F4 (1 : Int32) x11 p5) + (F4 (1 : Int32) x19 p5)) + (F4 (1 : Int32) x21 p5)))])) rfl (by rw [hml]; rfl) (argsL := [(.int (1 : Int32)), (.int x17), (.int p5)]) (rest := [(.int (((F4 (1 : Int32) x11 p5) + (F4 (1 : Int32) x19 p5)) + (F4 (1 : Int32) x21 p5)))]) (lenOf pd_2 rfl) rfl (by show 2 * 0 + _ ≤ _; exact Nat.le_of_eq rfl) (hb hby at_176) (fun _ _ => ⟨rfl, e45, (by decide : 1 + 0 ≤ _), (by decide : 4 + 0 ≤ _)⟩)
    dsimp only [Pt.U, Pt.locs, Pt.cells, Pt.slots] at X46 l46 y46 z46 st46 hQ46
    subst l46 y46 z46
    refine Done.step st46 ?_
    obtain ⟨rfl, N46q, e46⟩ := hQ46
    have N46 := Fr.app N45 N46q
    show Done p e below s _ _ _ (T46.setTop (mkF m 179 #[.val (.int p1), .val (.int p2), .val (.int p3), .val (.int p4), .val (.int p5), .val (.int p6), .val (.int (4 : Int32)), .val (.int x3), .val (.int x5), .val (.int x7), .val (.int x9), .val (.int x11), .val (.int x13), .val (.int x15), .val (.int x17), .val (.int x19), .val (.int x21), .val (.ref r22), .unset] [(.int (F4 (1 : Int32) x17 p5)), (.int (((F4 (1 : Int32) x11 p5) + (F4 (1 : Int32) x19 p5)) + (F4 (1 : Int32) x21 p5)))]))
    refine Done.step (fun t k => XS.iadd X46.here hx rfl (hb hby at_179) rfl k) ?_
    show Done p e below s _ _ _ (T46.setTop (mkF m 180 #[.val (.int p1), .val (.int p2), .val (.int p3), .val (.int p4), .val (.int p5), .val (.int p6), .val (.int (4 : Int32)), .val (.int x3), .val (.int x5), .val (.int x7), .val (.int x9), .val (.int x11), .val (.int x13), .val (.int x15), .val (.int x17), .val (.int x19), .val (.int x21), .val (.ref r22), .unset] [(.int ((((F4 (1 : Int32) x11 p5) + (F4 (1 : Int32) x19 p5)) + (F4 (1 : Int32) x21 p5)) + (F4 (1 : Int32) x17 p5)))]))
    refine Done.step (fun t k => XS.istore X46.here hx rfl (hb hby at_180) rfl (l' := #[.val (.int p1), .val (.int p2), .val (.int p3), .val (.int p4), .val (.int p5), .val (.int p6), .val (.int (4 : Int32)), .val (.int x3), .val (.int x5), .val (.int x7), .val (.int x9), .val (.int x11), .val (.int x13), .val (.int x15), .val (.int x17), .val (.int x19), .val (.int x21), .val (.ref r22), .val (.int ((((F4 (1 : Int32) x11 p5) + (F4 (1 : Int32) x19 p5)) + (F4 (1 : Int32) x21 p5)) + (F4 (1 : Int32) x17 p5)))]) rfl k) ?_
    show Done p e below s _ _ _ (T46.setTop (mkF m 182 #[.val (.int p1), .val (.int p2), .val (.int p3), .val (.int p4), .val (.int p5), .val (.int p6), .val (.int (4 : Int32)), .val (.int x3), .val (.int x5), .val (.int x7), .val (.int x9), .val (.int x11), .val (.int x13), .val (.int x15), .val (.int x17), .val (.int x19), .val (.int x21), .val (.ref r22), .val (.int ((((F4 (1 : Int32) x11 p5) + (F4 (1 : Int32) x19 p5)) + (F4 (1 : Int32) x21 p5)) + (F4 (1 : Int32) x17 p5)))] []))
    refine Done.step (fun t k => XS.aload X46.here hx rfl (hb hby at_182) rfl rfl k) ?_
    show Done p e below s _ _ _ (T46.setTop (mkF m 184 #[.val (.int p1), .val (.int p2), .val (.int p3), .val (.int p4), .val (.int p5), .val (.int p6), .val (.int (4 : Int32)), .val (.int x3), .val (.int x5), .val (.int x7), .val (.int x9), .val (.int x11), .val (.int x13), .val (.int x15), .val (.int x17), .val (.int x19), .val (.int x21), .val (.ref r22), .val (.int ((((F4 (1 : Int32) x11 p5) + (F4 (1 : Int32) x19 p5)) + (F4 (1 : Int32) x21 p5)) + (F4 (1 : Int32) x17 p5)))] [(.ref r22)]))
    refine Done.step (fun t k => XS.iload X46.here hx rfl (hb hby at_184) rfl k) ?_
    show Done p e below s _ _ _ (T46.setTop (mkF m 186 #[.val (.int p1), .val (.int p2), .val (.int p3), .val (.int p4), .val (.int p5), .val (.int p6), .val (.int (4 : Int32)), .val (.int x3), .val (.int x5), .val (.int x7), .val (.int x9), .val (.int x11), .val (.int x13), .val (.int x15), .val (.int x17), .val (.int x19), .val (.int x21), .val (.ref r22), .val (.int ((((F4 (1 : Int32) x11 p5) + (F4 (1 : Int32) x19 p5)) + (F4 (1 : Int32) x21 p5)) + (F4 (1 : Int32) x17 p5)))] [(.int p5), (.ref r22)]))
    obtain ⟨v47, _, ⟨T47, L47, k47, n47⟩, -, X47, ⟨Lc47, hQ47, l47, y47, z47⟩, st47⟩ := Jvm.LawKit.callS X46 hx (y := (⟨"com/example/ruled_ledger/ruledledger/rules/SuperclassForest", "startAbove", "([II)I"⟩ : MethodName)) hown (mvT hZ (hw _ (List.mem_of_getElem? (i := 15) rfl))) (mvT hZ (hw _ (List.mem_of_getElem? (i := 16) rfl))) (mvT hZ (hw _ (List.mem_of_getElem? (i := 17) rfl))) (mvT hZ (hw _ (List.mem_of_getElem? (i := 18) rfl))) (by decide) (backOf (W := 0) (rm5 l Z a0 hw [] r22 p5 (MK (4 : Int32) x11 x19 x21 x17) T22.heap n0 Zk22 x22 (own_asc4 _ _ _ _ hsrt) (Nat.le_of_ble_eq_true rfl)) hZ (hw _ (List.mem_of_getElem? (i := 18) rfl)) (hw _ (List.mem_of_getElem? (i := 17) rfl)) (by decide) (by decide)) (g := (mkF m 186 #[.val (.int p1), .val (.int p2), .val (.int p3), .val (.int p4), .val (.int p5), .val (.int p6), .val (.int (4 : Int32)), .val (.int x3), .val (.int x5), .val (.int x7), .val (.int x9), .val (.int x11), .val (.int x13), .val (.int x15), .val (.int x17), .val (.int x19), .val (.int x21), .val (.ref r22), .val (.int ((((F4 (1 : Int32) x11 p5) + (F4 (1 : Int32) x19 p5)) + (F4 (1 : Int32) x21 p5)) + (F4 (1 : Int32) x17 p5)))] [(.int p5), (.ref r22)])) rfl (by rw [hml]; rfl) (argsL := [(.ref r22), (.int p5)]) (rest := []) (lenOf pd_3 rfl) rfl (by show 2 * 0 + _ ≤ _; exact Nat.le_of_eq rfl) (hb hby at_186) (fun _ _ => ⟨rfl, e46, (by decide : 1 + 0 ≤ _), (by decide : 4 + 0 ≤ _)⟩)
    dsimp only [Pt.U, Pt.locs, Pt.cells, Pt.slots] at X47 l47 y47 z47 st47 hQ47
    subst l47 y47 z47
    refine Done.step st47 ?_
    obtain ⟨⟨kk, rfl, hup⟩, N47q, e47⟩ := hQ47
    have N47 := Fr.app N46 N47q
    show Done p e below s _ _ _ (T47.setTop (mkF m 189 #[.val (.int p1), .val (.int p2), .val (.int p3), .val (.int p4), .val (.int p5), .val (.int p6), .val (.int (4 : Int32)), .val (.int x3), .val (.int x5), .val (.int x7), .val (.int x9), .val (.int x11), .val (.int x13), .val (.int x15), .val (.int x17), .val (.int x19), .val (.int x21), .val (.ref r22), .val (.int ((((F4 (1 : Int32) x11 p5) + (F4 (1 : Int32) x19 p5)) + (F4 (1 : Int32) x21 p5)) + (F4 (1 : Int32) x17 p5)))] [(.int kk)]))
    refine Done.step (fun t k => XS.iload X47.here hx rfl (hb hby at_189) rfl k) ?_
    show Done p e below s _ _ _ (T47.setTop (mkF m 191 #[.val (.int p1), .val (.int p2), .val (.int p3), .val (.int p4), .val (.int p5), .val (.int p6), .val (.int (4 : Int32)), .val (.int x3), .val (.int x5), .val (.int x7), .val (.int x9), .val (.int x11), .val (.int x13), .val (.int x15), .val (.int x17), .val (.int x19), .val (.int x21), .val (.ref r22), .val (.int ((((F4 (1 : Int32) x11 p5) + (F4 (1 : Int32) x19 p5)) + (F4 (1 : Int32) x21 p5)) + (F4 (1 : Int32) x17 p5)))] [(.int ((((F4 (1 : Int32) x11 p5) + (F4 (1 : Int32) x19 p5)) + (F4 (1 : Int32) x21 p5)) + (F4 (1 : Int32) x17 p5))), (.int kk)]))
    refine Done.step (fun t k => XS.icmpNo X47.here hx rfl (hb hby at_191) rfl (teq (own_cnt4 x11 x19 x21 x17 p5 kk hup)).2 k) ?_
    show Done p e below s _ _ _ (T47.setTop (mkF m 194 #[.val (.int p1), .val (.int p2), .val (.int p3), .val (.int p4), .val (.int p5), .val (.int p6), .val (.int (4 : Int32)), .val (.int x3), .val (.int x5), .val (.int x7), .val (.int x9), .val (.int x11), .val (.int x13), .val (.int x15), .val (.int x17), .val (.int x19), .val (.int x21), .val (.ref r22), .val (.int ((((F4 (1 : Int32) x11 p5) + (F4 (1 : Int32) x19 p5)) + (F4 (1 : Int32) x21 p5)) + (F4 (1 : Int32) x17 p5)))] []))
    refine Done.step (fun t k => XS.iconst X47.here hx rfl (hb hby at_194) k) ?_
    show Done p e below s _ _ _ (T47.setTop (mkF m 195 #[.val (.int p1), .val (.int p2), .val (.int p3), .val (.int p4), .val (.int p5), .val (.int p6), .val (.int (4 : Int32)), .val (.int x3), .val (.int x5), .val (.int x7), .val (.int x9), .val (.int x11), .val (.int x13), .val (.int x15), .val (.int x17), .val (.int x19), .val (.int x21), .val (.ref r22), .val (.int ((((F4 (1 : Int32) x11 p5) + (F4 (1 : Int32) x19 p5)) + (F4 (1 : Int32) x21 p5)) + (F4 (1 : Int32) x17 p5)))] [(.int (1 : Int32))]))
    refine Done.step (fun t k => XS.goto X47.here hx rfl (pc0 := 195) (pc' := 199) rfl (hb hby at_195) (by decide) (by decide) k) ?_
    show Done p e below s _ _ _ (T47.setTop (mkF m 199 #[.val (.int p1), .val (.int p2), .val (.int p3), .val (.int p4), .val (.int p5), .val (.int p6), .val (.int (4 : Int32)), .val (.int x3), .val (.int x5), .val (.int x7), .val (.int x9), .val (.int x11), .val (.int x13), .val (.int x15), .val (.int x17), .val (.int x19), .val (.int x21), .val (.ref r22), .val (.int ((((F4 (1 : Int32) x11 p5) + (F4 (1 : Int32) x19 p5)) + (F4 (1 : Int32) x21 p5)) + (F4 (1 : Int32) x17 p5)))] [(.int (1 : Int32))]))
    exact Done.narr X47 hx hlk hret (by simp) (hb hby at_199) (by decide) (by decide) ⟨rfl, N47⟩
set_option maxRecDepth 65536 in
set_option maxHeartbeats 40000000 in
theorem comes_1 {Post : Tables → Env → Array Value → State → Outcome → State → Prop} (hpost : ∀ tb e args s v u, (limb_1_1.after args s (.returned v) u = true ∧ limb_1_2.after args s (.returned v) u = true ∧ True) → FrameEnd s (.returned v) u (Jvm.fieldLocs frame_1_writes args s ++ Jvm.arrayLocs frame_1_arrays args s ++ Jvm.staticLocs frame_1_statics s) 16 128 → Post tb e args s (.returned v) u) :
    ArmFor flags0 classFile x code maxLocals ret World_1 tables_1 room_1 Calls_1 rest_1 Pre_1 Post := by
  intro l hfl _ _ p e ha hc hk s m args below hf hA hF happ hP
  obtain ⟨hcalls, hrest, hpre⟩ := hP
  obtain ⟨-, -, -, hnamed, -, -, -, hat⟩ := (Spec.applies_iff hf).mp happ
  obtain ⟨hg, hn⟩ := and_e (Cond.before_iff.mp (show (Jvm.Cond.and given_1 narrow_1).before args s = true from hpre))
  obtain ⟨hcnt, g0⟩ := and_e hg
  obtain ⟨u0, g1⟩ := and_e g0
  obtain ⟨u1, g2⟩ := and_e g1
  obtain ⟨u2, g3⟩ := and_e g2
  obtain ⟨u3, g4⟩ := and_e g3
  obtain ⟨u4, g5⟩ := and_e g4
  have u5 := g5
  obtain ⟨w0, w1, w2, w3, w4, w5, rfl⟩ : ∃ w0 w1 w2 w3 w4 w5 : Value, args = #[w0, w1, w2, w3, w4, w5] := by
    have hs : args.size = 6 := by simpa [Cond.value, given_1] using hcnt
    obtain ⟨L⟩ := args
    match L, hs with
    | [w0, w1, w2, w3, w4, w5], _ => exact ⟨w0, w1, w2, w3, w4, w5, rfl⟩
  have hw := fun d (hd : d ∈ tables_1) => atoms_spec (ws := Jvm.Cond.code x code maxLocals ret :: tables_1) hat d (List.mem_cons_of_mem _ hd)
  have hfit : Fit s := fun {y c} hc i hi => by
    obtain ⟨ha, rfl⟩ := Array.getElem?_eq_some_iff.mp hc
    have q := List.all_eq_true.mp ((Array.all_eq_true_iff_forall_mem.mp hF) _ (Array.getElem_mem ha)) i (List.mem_range.mpr hi)
    simpa [Array.getElem?_eq_getElem hi] using q
  obtain ⟨i0, ei0⟩ := is_v u0
  obtain rfl : w0 = (.int i0) := Option.some.inj ei0
  obtain ⟨i1, ei1⟩ := is_v u1
  obtain rfl : w1 = (.int i1) := Option.some.inj ei1
  obtain ⟨i2, ei2⟩ := is_v u2
  obtain rfl : w2 = (.int i2) := Option.some.inj ei2
  obtain ⟨i3, ei3⟩ := is_v u3
  obtain rfl : w3 = (.int i3) := Option.some.inj ei3
  obtain ⟨i4, ei4⟩ := is_v u4
  obtain rfl : w4 = (.int i4) := Option.some.inj ei4
  obtain ⟨i5, ei5⟩ := is_v u5
  obtain rfl : w5 = (.int i5) := Option.some.inj ei5
  obtain ⟨n, o, h1, h2, h3, _, L, rfl, ⟨rfl, N⟩, hq⟩ := rm0 l s _ hw tables_1 i0 i1 i2 i3 i4 i5 s.heap s.heap.size (Nat.le_refl _) p e ha hc hk s m _ below hf ((Spec.applies_iff_loose hf).mp happ).1 ⟨rfl, State.Warmed39.refl s, rfl⟩ trivial
  refine ⟨n, _, h1, h2, h3, hpost _ _ _ _ _ _ ⟨Cond.after_iff.mpr rfl, Cond.after_iff.mpr (eq_i res_at (Term.int_eval (1)) rfl), trivial⟩ ⟨hq.1, hq.2.1, (hq.2.2.sift fun y hy => Or.inr (N y hy)).mono (by decide) (by decide)⟩⟩
theorem main_1_1 : Claimed_1_1 := comes_1 fun _ _ _ _ _ _ h hF => ⟨h.1, hF⟩
theorem main_1_2 : Claimed_1_2 := comes_1 fun _ _ _ _ _ _ h hF => ⟨h.2.1, hF⟩
end Jvm.Pilot.@@N@@
namespace Jvm.Pilot.@@N@@
open Jvm Jvm.ClassFile Sem Op Lib Jvm.Free Jvm.Stand Jvm.Pilot.@@N@@.Jvm.D
/-! MADE BY PROGRAM (witnessworld.py) out of the Statement's table words and the real class files: 10 classes; the members and pool entries that the words name. The judged class is class 1, her method 1. -/
namespace start1
open Jvm.ClassFile
def u (s : String) : CpInfo := .utf8 (stringToUtf16 s)
/-- a pool by its gaps: so many unusable entries, then the entry; so many at the end -/
def gap : Nat → List CpInfo → List CpInfo
  | 0, r => r
  | n + 1, r => .unusable :: gap n r
def poolList (es : List (Nat × CpInfo)) (last : Nat) : List CpInfo := es.foldr (fun e r => gap e.1 (e.2 :: r)) (gap last [])
def pool (es : List (Nat × CpInfo)) (last : Nat) : Array CpInfo := ⟨poolList es last⟩
def fileOf (pool : Array CpInfo) (this : Nat) (attrs : Array Attribute := #[]) (ms : Array MethodInfo := #[]) (fl : Nat := 33) (sup : Nat := 0) (ifs : Array Nat := #[]) (fds : Array FieldInfo := #[]) : ClassFile where
  minorVersion := 0
  majorVersion := 65
  constantPool := pool
  accessFlags := fl
  thisClass := this
  superClass := sup
  interfaces := ifs
  fields := fds
  methods := ms
  attributes := attrs
def plain (name : String) (sup : Option ClassId) : Class where
  name := name
  kind := .ordinary
  loader := none
  accessFlags := 33
  super := sup
  interfaces := #[]
  cf := none
  fields := #[]
  methods := #[]
  instanceTypes := #[]
  staticTypes := #[]
  resolved := #[]
  callSites := []
  init := .initialized
  statics := none
  mirror := none

def pool0 : Array CpInfo := pool [(5, u "<init>"), (0, u "()V"), (1, .class_ 10), (1, u "java/lang/Object")] 113

def k0m0 : Method := { name := "<init>", desc := "()V", sig := { parameters := [], returnType := none }, accessFlags := 1, code := none }
/-- java/lang/Object -/
def k0 : Class := { plain "java/lang/Object" none with
  accessFlags := 33
  interfaces := #[]
  cf := some (fileOf pool0 8 #[] #[{ accessFlags := 1, nameIndex := 5, descriptorIndex := 6, attributes := #[] }] 33 0 #[] #[])
  fields := #[]
  methods := #[k0m0]
  instanceTypes := #[]
  staticTypes := #[]
  resolved := Array.replicate 124 none
  statics := none }

def pool1 : Array CpInfo := pool [(2, .class_ 4), (1, u "java/lang/Object"), (0, u "<init>"), (0, u "()V"), (0, .methodref 8 9), (0, .class_ 10), (0, .nameAndType 11 12), (0, u "java/lang/Math"), (0, u "min"), (0, u "(II)I"), (0, .methodref 8 14), (0, .nameAndType 15 12), (0, u "max"), (0, .methodref 17 18), (0, .class_ 19), (0, .nameAndType 20 21), (0, u "com/example/ruled_ledger/ruledledger/rules/SuperclassForestStartAbovePinLaw"), (0, u "make"), (0, u "(IIIII)[I"), (0, .methodref 17 23), (0, .nameAndType 24 25), (0, u "le"), (0, u "(ZII)I"), (0, .methodref 27 28), (0, .class_ 29), (0, .nameAndType 30 31), (0, u "com/example/ruled_ledger/ruledledger/rules/SuperclassForest"), (0, u "startAbove"), (0, u "([II)I"), (2, u "law"), (0, u "(IIIIII)Z")] 5

def k1m0 : Method := { name := "<init>", desc := "()V", sig := { parameters := [], returnType := none }, accessFlags := 1, code := none }
def k1c1 : Code := { maxStack := 5, maxLocals := 19, code := code, exceptionTable := #[], attributes := #[] }
def k1m1 : Method := { name := "law", desc := "(IIIIII)Z", sig := { parameters := [.int, .int, .int, .int, .int, .int], returnType := some .boolean }, accessFlags := 9, code := some k1c1 }
def k1c2 : Code := { maxStack := 2, maxLocals := 3, code := method_3_code, exceptionTable := #[], attributes := #[] }
def k1m2 : Method := { name := "le", desc := "(ZII)I", sig := { parameters := [.boolean, .int, .int], returnType := some .int }, accessFlags := 10, code := some k1c2 }
def k1c3 : Code := { maxStack := 4, maxLocals := 5, code := method_4_code, exceptionTable := #[], attributes := #[] }
def k1m3 : Method := { name := "make", desc := "(IIIII)[I", sig := { parameters := [.int, .int, .int, .int, .int], returnType := some (.array .int) }, accessFlags := 10, code := some k1c3 }
/-- com/example/ruled_ledger/ruledledger/rules/SuperclassForestStartAbovePinLaw -/
def k1 : Class := { plain "com/example/ruled_ledger/ruledledger/rules/SuperclassForestStartAbovePinLaw" (some 0) with
  accessFlags := 49
  interfaces := #[]
  cf := some (fileOf pool1 17 #[] #[{ accessFlags := 1, nameIndex := 5, descriptorIndex := 6, attributes := #[] }, { accessFlags := 9, nameIndex := 34, descriptorIndex := 35, attributes := #[] }, { accessFlags := 10, nameIndex := 24, descriptorIndex := 25, attributes := #[] }, { accessFlags := 10, nameIndex := 20, descriptorIndex := 21, attributes := #[] }] 49 2 #[] #[])
  fields := #[]
  methods := #[k1m0, k1m1, k1m2, k1m3]
  instanceTypes := #[]
  staticTypes := #[]
  resolved := Array.replicate 41 none
  statics := none }

def pool2 : Array CpInfo := pool [(1, .class_ 2), (0, u "java/lang/Math"), (1, .class_ 6), (1, u "java/lang/Object"), (0, u "<init>"), (0, u "()V"), (89, .class_ 100), (1, u "java/lang/Math$RandomNumberGeneratorHolder"), (71, u "negativeZeroFloatBits"), (0, u "J"), (2, u "negativeZeroDoubleBits"), (21, u "max"), (2, u "min"), (43, u "$assertionsDisabled"), (0, u "Z"), (88, u "(II)I"), (2, u "twoToTheDoubleScaleDown"), (0, u "D"), (4, u "twoToTheDoubleScaleUp"), (9, u "E"), (3, u "PI"), (2, u "TAU"), (2, u "DEGREES_TO_RADIANS"), (0, u "RADIANS_TO_DEGREES")] 94

def k2m0 : Method := { name := "<init>", desc := "()V", sig := { parameters := [], returnType := none }, accessFlags := 2, code := none }
def k2c1 : Code := { maxStack := 2, maxLocals := 2, code := jdk_29_method_65_code, exceptionTable := #[], attributes := #[] }
def k2m1 : Method := { name := "max", desc := "(II)I", sig := { parameters := [.int, .int], returnType := some .int }, accessFlags := 9, code := some k2c1 }
def k2c2 : Code := { maxStack := 2, maxLocals := 2, code := jdk_29_method_69_code, exceptionTable := #[], attributes := #[] }
def k2m2 : Method := { name := "min", desc := "(II)I", sig := { parameters := [.int, .int], returnType := some .int }, accessFlags := 9, code := some k2c2 }
/-- java/lang/Math -/
def k2 : Class := { plain "java/lang/Math" (some 0) with
  accessFlags := 49
  interfaces := #[]
  cf := some (fileOf pool2 1 #[.nestMembers #[98]] #[{ accessFlags := 2, nameIndex := 7, descriptorIndex := 8, attributes := #[] }, { accessFlags := 9, nameIndex := 198, descriptorIndex := 335, attributes := #[] }, { accessFlags := 9, nameIndex := 201, descriptorIndex := 335, attributes := #[] }] 49 4 #[] #[{ accessFlags := 25, nameIndex := 354, descriptorIndex := 339, attributes := #[] }, { accessFlags := 25, nameIndex := 358, descriptorIndex := 339, attributes := #[] }, { accessFlags := 25, nameIndex := 361, descriptorIndex := 339, attributes := #[] }, { accessFlags := 26, nameIndex := 364, descriptorIndex := 339, attributes := #[] }, { accessFlags := 26, nameIndex := 365, descriptorIndex := 339, attributes := #[] }, { accessFlags := 26, nameIndex := 172, descriptorIndex := 173, attributes := #[] }, { accessFlags := 26, nameIndex := 176, descriptorIndex := 173, attributes := #[] }, { accessFlags := 8, nameIndex := 344, descriptorIndex := 339, attributes := #[] }, { accessFlags := 8, nameIndex := 338, descriptorIndex := 339, attributes := #[] }, { accessFlags := 4120, nameIndex := 245, descriptorIndex := 246, attributes := #[] }])
  fields := #[{ name := "E", type := .double, accessFlags := 25, slot := 0, constantValue := 0 }, { name := "PI", type := .double, accessFlags := 25, slot := 1, constantValue := 0 }, { name := "TAU", type := .double, accessFlags := 25, slot := 2, constantValue := 0 }, { name := "DEGREES_TO_RADIANS", type := .double, accessFlags := 26, slot := 3, constantValue := 0 }, { name := "RADIANS_TO_DEGREES", type := .double, accessFlags := 26, slot := 4, constantValue := 0 }, { name := "negativeZeroFloatBits", type := .long, accessFlags := 26, slot := 5, constantValue := 0 }, { name := "negativeZeroDoubleBits", type := .long, accessFlags := 26, slot := 6, constantValue := 0 }, { name := "twoToTheDoubleScaleUp", type := .double, accessFlags := 8, slot := 7, constantValue := 0 }, { name := "twoToTheDoubleScaleDown", type := .double, accessFlags := 8, slot := 8, constantValue := 0 }, { name := "$assertionsDisabled", type := .boolean, accessFlags := 4120, slot := 9, constantValue := 0 }]
  methods := #[k2m0, k2m1, k2m2]
  instanceTypes := #[]
  staticTypes := #[.double, .double, .double, .double, .double, .long, .long, .double, .double, .boolean]
  resolved := Array.replicate 460 none
  statics := none }

def pool3 : Array CpInfo := pool [(2, .class_ 4), (1, u "java/lang/Object"), (6, .class_ 13), (1, u "com/example/ruled_ledger/ruledledger/rules/SuperclassForest"), (0, u "first"), (0, u "Ljava/util/Map;"), (2, u "last"), (5, u "cutRoots"), (0, u "Ljava/util/List;"), (2, u "resumes"), (70, u "cutNumbers"), (0, u "[I"), (18, u "startAbove"), (0, u "([II)I"), (51, .class_ 173), (0, u "com/example/ruled_ledger/ruledledger/rules/SuperclassForest$Marks")] 63

def k3c0 : Code := { maxStack := 2, maxLocals := 5, code := prog_115_method_13_code, exceptionTable := #[], attributes := #[] }
def k3m0 : Method := { name := "startAbove", desc := "([II)I", sig := { parameters := [(.array .int), .int], returnType := some .int }, accessFlags := 8, code := some k3c0 }
/-- com/example/ruled_ledger/ruledledger/rules/SuperclassForest -/
def k3 : Class := { plain "com/example/ruled_ledger/ruledledger/rules/SuperclassForest" (some 0) with
  accessFlags := 32
  interfaces := #[]
  cf := some (fileOf pool3 11 #[.nestMembers #[172]] #[{ accessFlags := 8, nameIndex := 119, descriptorIndex := 120, attributes := #[] }] 32 2 #[] #[{ accessFlags := 18, nameIndex := 14, descriptorIndex := 15, attributes := #[] }, { accessFlags := 18, nameIndex := 18, descriptorIndex := 15, attributes := #[] }, { accessFlags := 18, nameIndex := 24, descriptorIndex := 25, attributes := #[] }, { accessFlags := 18, nameIndex := 28, descriptorIndex := 25, attributes := #[] }, { accessFlags := 18, nameIndex := 99, descriptorIndex := 100, attributes := #[] }])
  fields := #[{ name := "first", type := (.object "java/util/Map"), accessFlags := 18, slot := 0, constantValue := 0 }, { name := "last", type := (.object "java/util/Map"), accessFlags := 18, slot := 1, constantValue := 0 }, { name := "cutRoots", type := (.object "java/util/List"), accessFlags := 18, slot := 2, constantValue := 0 }, { name := "resumes", type := (.object "java/util/List"), accessFlags := 18, slot := 3, constantValue := 0 }, { name := "cutNumbers", type := (.array .int), accessFlags := 18, slot := 4, constantValue := 0 }]
  methods := #[k3m0]
  instanceTypes := #[(.object "java/util/Map"), (.object "java/util/Map"), (.object "java/util/List"), (.object "java/util/List"), (.array .int)]
  staticTypes := #[]
  resolved := Array.replicate 237 none
  statics := none }

def pool4 : Array CpInfo := pool [(1, u "java/lang/Cloneable"), (0, .class_ 1), (0, u "java/lang/Object"), (0, .class_ 3)] 3

/-- java/lang/Cloneable -/
def k4 : Class := { plain "java/lang/Cloneable" (some 0) with
  accessFlags := 1537
  interfaces := #[]
  cf := some (fileOf pool4 2 #[] #[] 1537 4 #[] #[])
  fields := #[]
  methods := #[]
  instanceTypes := #[]
  staticTypes := #[]
  resolved := Array.replicate 8 none
  statics := none }

def pool5 : Array CpInfo := pool [(1, u "java/io/Serializable"), (0, .class_ 1), (0, u "java/lang/Object"), (0, .class_ 3)] 3

/-- java/io/Serializable -/
def k5 : Class := { plain "java/io/Serializable" (some 0) with
  accessFlags := 1537
  interfaces := #[]
  cf := some (fileOf pool5 2 #[] #[] 1537 4 #[] #[])
  fields := #[]
  methods := #[]
  instanceTypes := #[]
  staticTypes := #[]
  resolved := Array.replicate 8 none
  statics := none }

/-- the primitive byte -/
def k6 : Class := { plain "byte" none with kind := .primitive 'B', accessFlags := 0x411 }
/-- [B -/
def k7 : Class := { plain "[B" (some 0) with kind := .array 6 .byte, interfaces := #[4, 5], accessFlags := 1041 }

/-- the primitive int -/
def k8 : Class := { plain "int" none with kind := .primitive 'I', accessFlags := 0x411 }
/-- [I -/
def k9 : Class := { plain "[I" (some 0) with kind := .array 8 .int, interfaces := #[4, 5], accessFlags := 1041 }

def heap : Heap := #[]
def classes : Array Class := #[k0, k1, k2, k3, k4, k5, k6, k7, k8, k9]
def interned : List (Array UInt16 × Addr) := []
def slotsUsed : Nat := 0
def theMethod : MethodId := ⟨1, 1⟩
def args0 : Array Value := #[.int 5, .int 7, .int 1, .int 3, .int 2, .int 3]
def aboutOver (below : List Frame) : State where
  vm := { classes := classes, interned := interned.toArray }
  heap := heap
  slotsUsed := slotsUsed
  threads := #[{ frames := .invoking theMethod args0 :: below }]
def below0 : List Frame := [.native { method := ⟨0, 0⟩, args := #[] }]
def about1 : State := aboutOver below0
def p0 : Program := .bare "" "" ""
def e0 : Env := launch0.env 0 0 0
theorem w_frames : about1.frames = Frame.invoking theMethod args0 :: below0 := rfl
set_option maxRecDepth 65536 in
theorem w_args : argsFit about1.vm theMethod args0 = true := by decide +kernel
set_option maxRecDepth 65536 in
theorem w_heap : heapFits about1 = true := by decide +kernel
set_option maxRecDepth 65536 in
theorem w_runnable : about1.curStatus? = some .runnable := by decide +kernel
set_option maxRecDepth 65536 in
theorem w_alone : about1.alone = true := by decide +kernel
set_option maxRecDepth 65536 in
theorem w_named : about1.methodNamed? x = some theMethod := by decide +kernel
set_option maxRecDepth 65536 in
theorem w_hears : about1.hears theMethod below0 = true := by decide +kernel
set_option maxRecDepth 65536 in
theorem w_ripe : about1.ripe theMethod args0 below0 = true := by decide +kernel
theorem w_running : about1.status = .running := rfl
set_option maxRecDepth 65536 in
theorem w_room : about1.hasRoom e0.platform room_1 = true :=
  launch0.hasRoom_least _ room_1 (by decide +kernel) (by decide +kernel) (by decide +kernel) (by decide +kernel) (by decide +kernel) (by decide +kernel)
theorem allAtoms_all (ts : List Jvm.Cond) (a : Array Jvm.Value) (st : Jvm.State) : (allAtoms ts).before a st = ts.all (fun c => c.before a st) := by
  induction ts with
  | nil => rfl
  | cons c t ih =>
    show (Jvm.Cond.and c (allAtoms t)).before a st = _
    rw [Jvm.Cond.before_and, ih, List.all_cons]
def words1 : List Jvm.Cond := Jvm.Cond.code x code maxLocals ret :: tables_1
/-- a 'code' word, met by the world's own term for the bytes: nothing is compared byte by byte -/
theorem code_word {y : MethodName} {bytes : ByteArray} {mx : Nat} {rt : Option FieldType} {a : Array Value} {s : State} {m : MethodId} {meth : Method} {c : Code} (h1 : s.methodNamed? y = some m) (h2 : s.vm.method? m = some meth) (h3 : meth.code = some c) (h4 : c.code = bytes)
    (h5 : (c.maxLocals == mx && c.exceptionTable.isEmpty && decide (c.maxStack ≤ mostOperands) && decide (meth.sig.returnType = rt) && !meth.locks && decide (parseMethodDescriptor y.desc = some meth.sig)) = true) : (Jvm.Cond.code y bytes mx rt).before a s = true := by
  simp only [Bool.and_eq_true, beq_iff_eq, Bool.not_eq_true', decide_eq_true_eq] at h5
  obtain ⟨⟨⟨⟨⟨g1, g2⟩, g3⟩, g4⟩, g5⟩, g6⟩ := h5
  simp [Cond.before, Cond.holds, Cond.value, h1, h2, h3, h4, g1, g2, g3, g4, g5, g6]
def isCode : Jvm.Cond → Bool
  | .code _ _ _ _ => true
  | _ => false
theorem all_split {L : List Jvm.Cond} {P : Jvm.Cond → Bool} (h1 : L.all (fun c => isCode c || P c) = true) (h2 : ∀ c ∈ L.filter isCode, P c = true) : L.all P = true := by
  refine List.all_eq_true.mpr fun c hc => ?_
  have h := List.all_eq_true.mp h1 c hc
  rcases Bool.eq_false_or_eq_true (isCode c) with hi | hi
  · exact h2 c (List.mem_filter.mpr ⟨hc, hi⟩)
  · simpa [hi] using h
set_option maxRecDepth 65536 in
theorem w_c0 : (Jvm.Cond.code x code maxLocals ret).before args0 about1 = true := code_word (m := ⟨1, 1⟩) (meth := k1m1) (c := k1c1) (by decide +kernel) rfl rfl rfl (by decide +kernel)
set_option maxRecDepth 65536 in
theorem w_c1 : (Jvm.Cond.code ({ cls := "java/lang/Math", name := "min", desc := "(II)I" } : Jvm.MethodName) jdk_29_method_69_code (2 : Nat) (Option.some Jvm.ClassFile.FieldType.int)).before args0 about1 = true := code_word (m := ⟨2, 2⟩) (meth := k2m2) (c := k2c2) (by decide +kernel) rfl rfl rfl (by decide +kernel)
set_option maxRecDepth 65536 in
theorem w_c2 : (Jvm.Cond.code ({ cls := "java/lang/Math", name := "max", desc := "(II)I" } : Jvm.MethodName) jdk_29_method_65_code (2 : Nat) (Option.some Jvm.ClassFile.FieldType.int)).before args0 about1 = true := code_word (m := ⟨2, 1⟩) (meth := k2m1) (c := k2c1) (by decide +kernel) rfl rfl rfl (by decide +kernel)
set_option maxRecDepth 65536 in
theorem w_c3 : (Jvm.Cond.code ({ cls := "com/example/ruled_ledger/ruledledger/rules/SuperclassForestStartAbovePinLaw", name := "make", desc := "(IIIII)[I" } : Jvm.MethodName) method_4_code (5 : Nat) (Option.some (Jvm.ClassFile.FieldType.array Jvm.ClassFile.FieldType.int))).before args0 about1 = true := code_word (m := ⟨1, 3⟩) (meth := k1m3) (c := k1c3) (by decide +kernel) rfl rfl rfl (by decide +kernel)
set_option maxRecDepth 65536 in
theorem w_c4 : (Jvm.Cond.code ({ cls := "com/example/ruled_ledger/ruledledger/rules/SuperclassForestStartAbovePinLaw", name := "le", desc := "(ZII)I" } : Jvm.MethodName) method_3_code (3 : Nat) (Option.some Jvm.ClassFile.FieldType.int)).before args0 about1 = true := code_word (m := ⟨1, 2⟩) (meth := k1m2) (c := k1c2) (by decide +kernel) rfl rfl rfl (by decide +kernel)
set_option maxRecDepth 65536 in
theorem w_c5 : (Jvm.Cond.code ({ cls := "com/example/ruled_ledger/ruledledger/rules/SuperclassForest", name := "startAbove", desc := "([II)I" } : Jvm.MethodName) prog_115_method_13_code (5 : Nat) (Option.some Jvm.ClassFile.FieldType.int)).before args0 about1 = true := code_word (m := ⟨3, 0⟩) (meth := k3m0) (c := k3c0) (by decide +kernel) rfl rfl rfl (by decide +kernel)
def codes1 : List Jvm.Cond := [Jvm.Cond.code x code maxLocals ret, Jvm.Cond.code ({ cls := "java/lang/Math", name := "min", desc := "(II)I" } : Jvm.MethodName) jdk_29_method_69_code (2 : Nat) (Option.some Jvm.ClassFile.FieldType.int), Jvm.Cond.code ({ cls := "java/lang/Math", name := "max", desc := "(II)I" } : Jvm.MethodName) jdk_29_method_65_code (2 : Nat) (Option.some Jvm.ClassFile.FieldType.int), Jvm.Cond.code ({ cls := "com/example/ruled_ledger/ruledledger/rules/SuperclassForestStartAbovePinLaw", name := "make", desc := "(IIIII)[I" } : Jvm.MethodName) method_4_code (5 : Nat) (Option.some (Jvm.ClassFile.FieldType.array Jvm.ClassFile.FieldType.int)), Jvm.Cond.code ({ cls := "com/example/ruled_ledger/ruledledger/rules/SuperclassForestStartAbovePinLaw", name := "le", desc := "(ZII)I" } : Jvm.MethodName) method_3_code (3 : Nat) (Option.some Jvm.ClassFile.FieldType.int), Jvm.Cond.code ({ cls := "com/example/ruled_ledger/ruledledger/rules/SuperclassForest", name := "startAbove", desc := "([II)I" } : Jvm.MethodName) prog_115_method_13_code (5 : Nat) (Option.some Jvm.ClassFile.FieldType.int)]
set_option maxRecDepth 65536 in
theorem codes_eq : words1.filter isCode = codes1 := rfl
theorem w_codes : ∀ c ∈ words1.filter isCode, c.before args0 about1 = true := by
  rw [codes_eq]
  intro c hc
  simp only [codes1, List.mem_cons, List.not_mem_nil, or_false] at hc
  rcases hc with rfl | rfl | rfl | rfl | rfl | rfl
  · exact w_c0
  · exact w_c1
  · exact w_c2
  · exact w_c3
  · exact w_c4
  · exact w_c5
set_option maxRecDepth 65536 in
theorem w_t1 : words1.all (fun c => isCode c || c.before args0 about1) = true := by decide +kernel
theorem w_tables : (allAtoms (Jvm.Cond.code x code maxLocals ret :: tables_1)).before args0 about1 = true := by
  rw [allAtoms_all]
  show words1.all (fun c => c.before args0 about1) = true
  refine all_split ?_ w_codes
  rw [w_t1]
set_option maxRecDepth 65536 in
theorem w_case : (Jvm.Cond.and given_1 narrow_1).before args0 about1 = true := by decide +kernel
theorem w_applies : (headSpec (Jvm.Cond.code x code maxLocals ret :: tables_1) room_1).applies x e0.platform about1 = true :=
  (Spec.applies_iff w_frames).mpr ⟨w_running, w_runnable, w_alone, w_named, w_hears, w_ripe, w_room, w_tables⟩
theorem atStart : AtStart classFile x code maxLocals ret World_1 tables_1 room_1 Calls_1 rest_1 Pre_1 launch0 p0 e0 about1 theMethod args0 below0 :=
  ⟨lists_1, trivial, launch0.admits_env _ _ _, launch0.least_env, fairChoices_fair.cas, fairChoices_fair.clock, w_frames, w_args, w_heap, w_applies, trivial, trivial, w_case⟩
end start1
theorem witness_1 : WitnessClaimed_1 := ⟨start1.p0, start1.e0, start1.about1, start1.theMethod, start1.args0, start1.below0, start1.atStart⟩
end Jvm.Pilot.@@N@@
