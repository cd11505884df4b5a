import JvmDerived
import JvmDerived.Pilot.@@N@@Statement
import JvmDerived.Pilot.@@N@@Code
set_option linter.unusedVariables false
set_option linter.unusedSimpArgs false
namespace Jvm.RoadKit
open Sem ClassFile Op Lib Jvm.Stand Jvm.Free Jvm.LawKit
section New
variable {p : Program} {l : Launch} {e : Env} {R : Room} {s : State} {m : MethodId} {args : Array Value} {below : List Frame} {meth : Method} {c : Code} {T : State} {locs : List Loc} {cells slots : Nat}
theorem retI (X : Stand p l e R s m args below meth c T locs cells slots) (hx : p.tables.exec = Jvm.exec) {pc : Nat} {Ls : Array Slot} {z : Int32} {rest : List Value} (hret : meth.sig.returnType = some .int) (hd : decode c.code pc = .ok (.ireturn, 1)) {fs : List Frame}
    (hl : ∀ (f : JFrame) (acts : List Action), f.method = m → f.locked = none → f.entered = [] → (doReturn e (T.setTop f) acts (some (.int z))).1 = T.setFrames fs) : Steps p.tables e below (T.setTop (mkF m pc Ls (.int z :: rest))) (T.setFrames fs) := by
  have hm' : T.vm.method? m = some meth := X.method'
  have hn : narrow .int (.int z) = .int z := rfl
  show Steps p.tables e below (T.setTop { method := m, pc := pc, locals := Ls, stack := _ :: rest, locked := none }) _
  jvm_step X.here [X.here.top, hx, hd, hm', hret, hn]
  first | (intro acts; rw [hl _ acts rfl rfl rfl]) | rw [hl _ _ rfl rfl rfl]
  exact Steps.refl _
end New
end Jvm.RoadKit
namespace Jvm.Pilot.@@N@@
open Jvm Jvm.ClassFile Sem Op Lib Jvm.Free Jvm.Stand Jvm.LawKit Jvm.RoadKit Bundle Jvm.Pilot.@@N@@.Jvm.D
section OwnKit
/-- the rest of a body ends well: from the state U on it comes to its end, what it returns and leaves is as Q says -/
def Done (p : Program) (e : Env) (below : List Frame) (s : State) (Q : Option Value → Heap → List Loc → Prop) (C S : Nat) (U : State) : Prop :=
  ∃ s₂ o, Steps p.tables e below U s₂ ∧ s₂.status = .running ∧ Ended s₂ below o ∧ ∃ v L, o = .returned v ∧ Q v s₂.heap L ∧ FrameEnd s o s₂ L C S
variable {p : Program} {l : Launch} {e : Env} {R : Room} {s : State} {m : MethodId} {args : Array Value} {below : List Frame} {meth : Method} {c : Code} {T U U' : State} {locs : List Loc} {cells slots C S : Nat} {Q : Option Value → Heap → List Loc → Prop}
theorem Done.step (h : ∀ t, Steps p.tables e below U' t → Steps p.tables e below U t) (d : Done p e below s Q C S U') : Done p e below s Q C S U := by
  obtain ⟨s₂, o, h1, r⟩ := d
  exact ⟨s₂, o, h _ h1, r⟩
theorem Done.far (h : Steps p.tables e below U U') (d : Done p e below s Q C S U') : Done p e below s Q C S U := by
  obtain ⟨s₂, o, h1, r⟩ := d
  exact ⟨s₂, o, h.trans h1, r⟩
theorem Done.mono {Q' : Option Value → Heap → List Loc → Prop} (d : Done p e below s Q C S U) (h : ∀ v h L, Q v h L → Q' v h L) : Done p e below s Q' C S U := by
  obtain ⟨s₂, o, h1, h2, h3, v, L, h4, h5, h6⟩ := d
  exact ⟨s₂, o, h1, h2, h3, v, L, h4, h _ _ _ h5, h6⟩
theorem Done.int (X : Stand p l e R s m args below meth c T locs cells slots) (hx : p.tables.exec = Jvm.exec) (hlk : meth.locks = false) (hret : meth.sig.returnType = some .int) {pc : Nat} {Ls : Array Slot} {z : Int32} {rest : List Value} (hd : decode c.code pc = .ok (.ireturn, 1)) (hc : cells ≤ C) (hs : slots ≤ S)
    (hq : Q (some (.int z)) T.heap locs) : Done p e below s Q C S (T.setTop (mkF m pc Ls (.int z :: rest))) := by
  obtain ⟨fs, hr, hrun, hended, hW, hsame⟩ := X.leave (v := some (.int z)) (fun h => by rw [hret] at h; cases h)
  exact ⟨_, _, retI X hx hret hd hr, hrun, hended, _, _, rfl, hq, ⟨_, rfl⟩, hW, hsame.mono hc hs⟩
theorem Done.narr (X : Stand p l e R s m args below meth c T locs cells slots) (hx : p.tables.exec = Jvm.exec) (hlk : meth.locks = false) {t : FieldType} (hret : meth.sig.returnType = some t) (ht : t = .boolean ∨ t = .byte ∨ t = .char ∨ t = .short) {pc : Nat} {Ls : Array Slot} {z : Int32} {rest : List Value} (hd : decode c.code pc = .ok (.ireturn, 1)) (hc : cells ≤ C) (hs : slots ≤ S)
    (hq : Q (some (.int (nar t z))) T.heap locs) : Done p e below s Q C S (T.setTop (mkF m pc Ls (.int z :: rest))) := by
  obtain ⟨fs, hr, hrun, hended, hW, hsame⟩ := X.leave (v := some (.int (nar t z))) (fun h => by rw [hret] at h; cases h)
  exact ⟨_, _, retN X hx hret ht hd hr, hrun, hended, _, _, rfl, hq, ⟨_, rfl⟩, hW, hsame.mono hc hs⟩
theorem Done.long (X : Stand p l e R s m args below meth c T locs cells slots) (hx : p.tables.exec = Jvm.exec) (hlk : meth.locks = false) (hret : meth.sig.returnType = some .long) {pc : Nat} {Ls : Array Slot} {z : Int64} {rest : List Value} (hd : decode c.code pc = .ok (.lreturn, 1)) (hc : cells ≤ C) (hs : slots ≤ S)
    (hq : Q (some (.long z)) T.heap locs) : Done p e below s Q C S (T.setTop (mkF m pc Ls (.long z :: rest))) := by
  obtain ⟨fs, hr, hrun, hended, hW, hsame⟩ := X.leave (v := some (.long z)) (fun h => by rw [hret] at h; cases h)
  exact ⟨_, _, retOut X hx hret rfl (Or.inr (Or.inl ⟨rfl, rfl, z, rfl⟩)) hd hr, hrun, hended, _, _, rfl, hq, ⟨_, rfl⟩, hW, hsame.mono hc hs⟩
theorem Done.ref (X : Stand p l e R s m args below meth c T locs cells slots) (hx : p.tables.exec = Jvm.exec) (hlk : meth.locks = false) {t : FieldType} (hret : meth.sig.returnType = some t) (ht : t.isReference = true) {pc : Nat} {Ls : Array Slot} {w : Value} {rest : List Value} (hw : w.isRef = true) (hn : narrow t w = w) (hd : decode c.code pc = .ok (.areturn, 1)) (hc : cells ≤ C) (hs : slots ≤ S)
    (hq : Q (some w) T.heap locs) : Done p e below s Q C S (T.setTop (mkF m pc Ls (w :: rest))) := by
  obtain ⟨fs, hr, hrun, hended, hW, hsame⟩ := X.leave (v := some w) (fun h => by rw [hret] at h; cases h)
  exact ⟨_, _, retOut X hx hret hn (Or.inr (Or.inr (Or.inr (Or.inr ⟨rfl, ht, hw⟩)))) hd hr, hrun, hended, _, _, rfl, hq, ⟨_, rfl⟩, hW, hsame.mono hc hs⟩
theorem Done.void (X : Stand p l e R s m args below meth c T locs cells slots) (hx : p.tables.exec = Jvm.exec) (hlk : meth.locks = false) (hret : meth.sig.returnType = none) {pc : Nat} {Ls : Array Slot} (hd : decode c.code pc = .ok (.return_, 1)) (hc : cells ≤ C) (hs : slots ≤ S)
    (hq : Q none T.heap locs) : Done p e below s Q C S (T.setTop (mkF m pc Ls [])) := by
  obtain ⟨fs, hr, hrun, hended, hW, hsame⟩ := X.leave (v := none) (fun _ => rfl)
  exact ⟨_, _, X.returnOut hx hret hd hr, hrun, hended, _, _, rfl, hq, ⟨_, rfl⟩, hW, hsame.mono hc hs⟩
variable {Z : State} {h h' h0 : Heap} {a b : Addr} {ty : FieldType} {vs : List Value} {sl : Nat} {v x : Value} {ws : List Addr} {j : Int32} {g : JFrame} {rest : List Value}
/-- an array whose slots are just the list vs -/
def Ax (Z : State) (h : Heap) (a : Addr) (ty : FieldType) (vs : List Value) : Prop := ∃ c : Cell, Arr Z h a c ty ∧ c.slots = vs.toArray
theorem Ax.lt (F : Ax Z h a ty vs) : a < h.size := by obtain ⟨c, A, -⟩ := F; exact A.lt
theorem Ax.ext (F : Ax Z h a ty vs) (E : Ext h h') : Ax Z h' a ty vs := by obtain ⟨c, A, r⟩ := F; exact ⟨c, A.ext E, r⟩
theorem Ax.other (F : Ax Z h b ty vs) (W : Wr h h' a sl v) (q : b ≠ a) : Ax Z h' b ty vs := by obtain ⟨c, A, r⟩ := F; exact ⟨c, A.other W q, r⟩
theorem Ax.keep (F : Ax Z h a ty vs) (K : Keep h h' ws) (q : a ∉ ws) : Ax Z h' a ty vs := by obtain ⟨c, A, r⟩ := F; exact ⟨c, ⟨K.2.1 a c A.1 q, A.2⟩, r⟩
theorem own_stakeep {C n d : String} (F : Sta Z h C n d v) (K : Keep h h' ws) (q : ∀ y ∈ ws, ∃ cell : Cell, h[y]? = some cell ∧ cell.vm.isStatics = false) : Sta Z h' C n d v := by
  obtain ⟨cf, i, k, f, st, cell, h1, h2, h3, h4, h5, h6, h7⟩ := F
  refine ⟨cf, i, k, f, st, cell, h1, h2, h3, h4, K.2.1 st cell h5 (fun z => ?_), h6, h7⟩
  obtain ⟨c', g1, g2⟩ := q st z
  cases h5.symm.trans g1; rw [g2] at h6; cases h6
theorem own_unst {C : String} (F : Exa Z h a C) : ∃ cell : Cell, h[a]? = some cell ∧ cell.vm.isStatics = false := by
  obtain ⟨cell, k, h1, -, -, h4, -⟩ := F; exact ⟨cell, h1, h4⟩
theorem fld_long {t : Term} {D n d : String} {k : Int64} {y : Addr} {av : Array Value} (hh : (Jvm.Cond.eq (Term.field t D n d) (Term.long k)).value av Z none Z [] = some true) (ht : t.eval av Z none [] Z = some (.ref y)) : Fld Z Z.heap y D n d (.long k) := by
  obtain ⟨u, w, e1, e2, k1, k2⟩ := cmp_v (Or.inl hh)
  have e3 : (Term.long k).eval av Z none [] Z = some (.long k) := rfl
  rw [e3] at e2; cases e2
  obtain ⟨z, rfl⟩ := k2
  have q := gotT (eq_L e1 e3) hh
  subst q
  rw [fld_at ht] at e1
  exact Fld.start e1
theorem fld_int {t : Term} {D n d : String} {k : Int32} {y : Addr} {av : Array Value} (hh : (Jvm.Cond.eq (Term.field t D n d) (Term.int k)).value av Z none Z [] = some true) (ht : t.eval av Z none [] Z = some (.ref y)) : Fld Z Z.heap y D n d (.int k) := by
  obtain ⟨u, w, e1, e2, k1, k2⟩ := cmp_v (Or.inl hh)
  have e3 : (Term.int k).eval av Z none [] Z = some (.int k) := rfl
  rw [e3] at e2; cases e2
  obtain ⟨z, rfl⟩ := k2
  have q : z = k := by simpa [Jvm.Cond.value, e1, e3] using hh
  subst q
  rw [fld_at ht] at e1
  exact Fld.start e1
theorem Ax.set (F : Ax Z h a ty vs) (W : Wr h h' a sl v) : Ax Z h' a ty (vs.set sl v) := by
  obtain ⟨c, A, r⟩ := F
  exact ⟨_, A.same W, by rw [show (c.setSlot sl v).slots = c.slots.setIfInBounds sl v from rfl, r, List.setIfInBounds_toArray]⟩
theorem Ax.new {k : ClassId} {n : Int32} {i : Nat} (A : Arr Z h a (newA k ty n) ty) (hi : n.toNatClampNeg = i) : Ax Z h a ty (List.replicate i (defaultValue ty)) :=
  ⟨_, A, by rw [show (newA k ty n).slots = Array.replicate n.toNatClampNeg (defaultValue ty) from rfl, hi, List.toArray_replicate]⟩
theorem Ax.size {c : Cell} (r : c.slots = vs.toArray) : c.slots.size = vs.length := by rw [r, List.size_toArray]
theorem Ax.inb {c : Cell} (r : c.slots = vs.toArray) (hj : ¬ j < 0) (hl : j.toNatClampNeg < vs.length) : ¬ (j < 0 ∨ c.slots.size ≤ j.toNatClampNeg) := fun q => q.elim hj fun u => by
  rw [Ax.size r] at u; exact absurd hl (Nat.not_lt.mpr u)
theorem Ax.get {c : Cell} (r : c.slots = vs.toArray) (hat : vs[j.toNatClampNeg]? = some x) : c.slots[j.toNatClampNeg]? = some x := by rw [r, List.getElem?_toArray]; exact hat
theorem Ax.lens (hat : vs[j.toNatClampNeg]? = some x) : j.toNatClampNeg < vs.length := (List.getElem?_eq_some_iff.mp hat).1
theorem ldI (X : Stand p l e R s m args below meth c T locs cells slots) (hx : p.tables.exec = Jvm.exec) (hZ : Z.Warmed39 s.vm) (eT : T.heap = h) (F : Ax Z h a .int vs) (hj : ¬ j < 0) (hat : vs[j.toNatClampNeg]? = some x) (hg : g.method = m) (hs : g.stack = .int j :: .ref a :: rest) (hd : decode c.code g.pc = .ok (.iaload, 1)) :
    ∀ target, Steps p.tables e below (T.setTop { g with pc := g.pc + 1, stack := x :: rest }) target → Steps p.tables e below (T.setTop g) target := by
  obtain ⟨cl, A, r⟩ := F
  exact X.iaload hx (by rw [eT]; exact A.1) (State.isArrayOf_alike hZ.alike A.2.1) A.2.2 (Ax.inb r hj (Ax.lens hat)) (Ax.get r hat) hg hs hd
theorem ldJ (X : Stand p l e R s m args below meth c T locs cells slots) (hx : p.tables.exec = Jvm.exec) (hZ : Z.Warmed39 s.vm) (eT : T.heap = h) (F : Ax Z h a .long vs) (hj : ¬ j < 0) (hat : vs[j.toNatClampNeg]? = some x) (hg : g.method = m) (hs : g.stack = .int j :: .ref a :: rest) (hd : decode c.code g.pc = .ok (.laload, 1)) :
    ∀ target, Steps p.tables e below (T.setTop { g with pc := g.pc + 1, stack := x :: rest }) target → Steps p.tables e below (T.setTop g) target := by
  obtain ⟨cl, A, r⟩ := F
  exact X.laload hx (by rw [eT]; exact A.1) (State.isArrayOf_alike hZ.alike A.2.1) A.2.2 (Ax.inb r hj (Ax.lens hat)) (Ax.get r hat) hg hs hd
theorem ldB (X : Stand p l e R s m args below meth c T locs cells slots) (hx : p.tables.exec = Jvm.exec) (hZ : Z.Warmed39 s.vm) (eT : T.heap = h) (F : Ax Z h a .byte vs) (hj : ¬ j < 0) (hat : vs[j.toNatClampNeg]? = some x) (hg : g.method = m) (hs : g.stack = .int j :: .ref a :: rest) (hd : decode c.code g.pc = .ok (.baload, 1)) :
    ∀ target, Steps p.tables e below (T.setTop { g with pc := g.pc + 1, stack := x :: rest }) target → Steps p.tables e below (T.setTop g) target := by
  obtain ⟨cl, A, r⟩ := F
  exact X.baloadBytes hx (by rw [eT]; exact A.1) (State.isArrayOf_alike hZ.alike A.2.1) A.2.2 (Ax.inb r hj (Ax.lens hat)) (Ax.get r hat) hg hs hd
theorem ldZ (X : Stand p l e R s m args below meth c T locs cells slots) (hx : p.tables.exec = Jvm.exec) (hZ : Z.Warmed39 s.vm) (eT : T.heap = h) (F : Ax Z h a .boolean vs) (hj : ¬ j < 0) (hat : vs[j.toNatClampNeg]? = some x) (hg : g.method = m) (hs : g.stack = .int j :: .ref a :: rest) (hd : decode c.code g.pc = .ok (.baload, 1)) :
    ∀ target, Steps p.tables e below (T.setTop { g with pc := g.pc + 1, stack := x :: rest }) target → Steps p.tables e below (T.setTop g) target := by
  obtain ⟨cl, A, r⟩ := F
  exact X.baloadBooleans hx (by rw [eT]; exact A.1) (State.isArrayOf_alike hZ.alike A.2.1) A.2.2 (Ax.inb r hj (Ax.lens hat)) (Ax.get r hat) hg hs hd
theorem lenA (X : Stand p l e R s m args below meth c T locs cells slots) (hx : p.tables.exec = Jvm.exec) (hZ : Z.Warmed39 s.vm) (eT : T.heap = h) (F : Ax Z h a ty vs) {n : Int32} (hn : vs.length.toInt32 = n) (hg : g.method = m) (hs : g.stack = .ref a :: rest) (hd : decode c.code g.pc = .ok (.arraylength, 1)) :
    ∀ target, Steps p.tables e below (T.setTop { g with pc := g.pc + 1, stack := .int n :: rest }) target → Steps p.tables e below (T.setTop g) target := by
  obtain ⟨cl, A, r⟩ := F
  intro target k
  refine X.arraylength hx (by rw [eT]; exact A.1) (State.isArrayOf_alike hZ.alike A.2.1) hg hs hd target ?_
  rw [Ax.size r, hn]; exact k
theorem stoI (X : Stand p l e R s m args below meth c T locs cells slots) (hx : p.tables.exec = Jvm.exec) (hZ : Z.Warmed39 s.vm) (eT : T.heap = h) (F : Ax Z h a .int vs) {y : Int32} (hj : ¬ j < 0) {i : Nat} (hi : j.toNatClampNeg = i) (hl : i < vs.length) (hg : g.method = m) (hs : g.stack = .int y :: .int j :: .ref a :: rest) (hd : decode c.code g.pc = .ok (.iastore, 1)) :
    ∃ T' h', Stand p l e R s m args below meth c T' (locs ++ [⟨a, j.toNatClampNeg⟩]) cells slots ∧ T'.heap = h' ∧ Wr h h' a j.toNatClampNeg (.int y) ∧ Ax Z h' a .int (vs.set i (.int y)) ∧ ∀ target, Steps p.tables e below (T'.setTop { g with pc := g.pc + 1, stack := rest }) target → Steps p.tables e below (T.setTop g) target := by
  obtain ⟨cl, A, r⟩ := F
  obtain ⟨T', h', X', e', W, st⟩ := stI X hx hZ eT A (Ax.inb r hj (by rw [hi]; exact hl)) hg hs hd
  exact ⟨T', h', X', e', W, hi ▸ Ax.set ⟨cl, A, r⟩ W, st⟩
theorem stoJ (X : Stand p l e R s m args below meth c T locs cells slots) (hx : p.tables.exec = Jvm.exec) (hZ : Z.Warmed39 s.vm) (eT : T.heap = h) (F : Ax Z h a .long vs) {y : Int64} (hj : ¬ j < 0) {i : Nat} (hi : j.toNatClampNeg = i) (hl : i < vs.length) (hg : g.method = m) (hs : g.stack = .long y :: .int j :: .ref a :: rest) (hd : decode c.code g.pc = .ok (.lastore, 1)) :
    ∃ T' h', Stand p l e R s m args below meth c T' (locs ++ [⟨a, j.toNatClampNeg⟩]) cells slots ∧ T'.heap = h' ∧ Wr h h' a j.toNatClampNeg (.long y) ∧ Ax Z h' a .long (vs.set i (.long y)) ∧ ∀ target, Steps p.tables e below (T'.setTop { g with pc := g.pc + 1, stack := rest }) target → Steps p.tables e below (T.setTop g) target := by
  obtain ⟨cl, A, r⟩ := F
  obtain ⟨T', h', X', e', W, st⟩ := stJ X hx hZ eT A (Ax.inb r hj (by rw [hi]; exact hl)) hg hs hd
  exact ⟨T', h', X', e', W, hi ▸ Ax.set ⟨cl, A, r⟩ W, st⟩
theorem stoB (X : Stand p l e R s m args below meth c T locs cells slots) (hx : p.tables.exec = Jvm.exec) (hZ : Z.Warmed39 s.vm) (eT : T.heap = h) (F : Ax Z h a .byte vs) {y : Int32} (hj : ¬ j < 0) {i : Nat} (hi : j.toNatClampNeg = i) (hl : i < vs.length) (hg : g.method = m) (hs : g.stack = .int y :: .int j :: .ref a :: rest) (hd : decode c.code g.pc = .ok (.bastore, 1)) :
    ∃ T' h', Stand p l e R s m args below meth c T' (locs ++ [⟨a, j.toNatClampNeg⟩]) cells slots ∧ T'.heap = h' ∧ Wr h h' a j.toNatClampNeg (.int (nar .byte y)) ∧ Ax Z h' a .byte (vs.set i (.int (nar .byte y))) ∧ ∀ target, Steps p.tables e below (T'.setTop { g with pc := g.pc + 1, stack := rest }) target → Steps p.tables e below (T.setTop g) target := by
  obtain ⟨cl, A, r⟩ := F
  obtain ⟨T', h', X', e', W, st⟩ := stB X hx hZ eT A (Ax.inb r hj (by rw [hi]; exact hl)) hg hs hd
  exact ⟨T', h', X', e', W, hi ▸ Ax.set ⟨cl, A, r⟩ W, st⟩
theorem stoZ (X : Stand p l e R s m args below meth c T locs cells slots) (hx : p.tables.exec = Jvm.exec) (hZ : Z.Warmed39 s.vm) (eT : T.heap = h) (F : Ax Z h a .boolean vs) {y : Int32} (hj : ¬ j < 0) {i : Nat} (hi : j.toNatClampNeg = i) (hl : i < vs.length) (hg : g.method = m) (hs : g.stack = .int y :: .int j :: .ref a :: rest) (hd : decode c.code g.pc = .ok (.bastore, 1)) :
    ∃ T' h', Stand p l e R s m args below meth c T' (locs ++ [⟨a, j.toNatClampNeg⟩]) cells slots ∧ T'.heap = h' ∧ Wr h h' a j.toNatClampNeg (.int (nar .boolean y)) ∧ Ax Z h' a .boolean (vs.set i (.int (nar .boolean y))) ∧ ∀ target, Steps p.tables e below (T'.setTop { g with pc := g.pc + 1, stack := rest }) target → Steps p.tables e below (T.setTop g) target := by
  obtain ⟨cl, A, r⟩ := F
  obtain ⟨T', h', X', e', W, st⟩ := stZ X hx hZ eT A (Ax.inb r hj (by rw [hi]; exact hl)) hg hs hd
  exact ⟨T', h', X', e', W, hi ▸ Ax.set ⟨cl, A, r⟩ W, st⟩
theorem cloX (X : Stand p l e R s m args below meth c T locs cells slots) (hx : p.tables.exec = Jvm.exec) (hZ : Z.Warmed39 s.vm) {a0 : Array Value} {own ad : String} {index : Nat} (hown : s.vm.findClass own = some m.cls)
    (w1 : (Cond.methodLink own index ⟨ad, "clone", "()Ljava/lang/Object;"⟩).before a0 Z = true) (w2 : (Cond.sameMethod ad "java/lang/Object" "clone" "()Ljava/lang/Object;").before a0 Z = true) (w3 : (Cond.native ⟨"java/lang/Object", "clone", "()Ljava/lang/Object;"⟩).before a0 Z = true)
    (w4 : (Cond.instanceMethod ⟨"java/lang/Object", "clone", "()Ljava/lang/Object;"⟩).before a0 Z = true) (w5 : (Cond.selects ad ⟨ad, "clone", "()Ljava/lang/Object;"⟩ ⟨"java/lang/Object", "clone", "()Ljava/lang/Object;"⟩).before a0 Z = true) (w6 : (Cond.castable ad "java/lang/Cloneable").before a0 Z = true)
    (eT : T.heap = h) (F : Ax Z h a ty vs) (E : Exa Z h a ad) (G : ∀ v ∈ vs, fits ty v = true) (hg : g.method = m) (hsize : g.locals.size = c.maxLocals) (hs : g.stack = .ref a :: rest) (hd : decode c.code g.pc = .ok (.invokevirtual index, 3))
    (hf : 1 ≤ R.frames) {W cap : Nat} (hW : 2 * g.monitorRoom + (rest.map fun v => v.category).sum ≤ W) (hl : W + 14 ≤ R.locals) (hcap : vs.length ≤ cap) (hc : cells + 1 ≤ R.cells) (hsl : slots + cap ≤ R.slots) :
    ∃ T' h', Stand p l e R s m args below meth c T' locs (cells + 1) (slots + cap) ∧ T'.heap = h' ∧ Ext h h' ∧ Ax Z h' h.size ty vs ∧ Exa Z h' h.size ad ∧
      ∀ target, Steps p.tables e below (T'.setTop { g with pc := g.pc + 3, stack := .ref h.size :: rest }) target → Steps p.tables e below (T.setTop g) target := by
  obtain ⟨cl, A, r⟩ := F
  have FC : FitC Z cl := fitC_of A fun i hi v hv => by
    rw [r, List.getElem?_toArray] at hv
    exact G v (List.mem_of_getElem? hv)
  obtain ⟨T', h', X', e', ex, A', E', st⟩ := cloneA X hx hZ hown w1 w2 w3 w4 w5 w6 eT A E FC hg hsize hs hd hf hW hl (by rw [Ax.size r]; exact hcap) hc hsl
  exact ⟨T', h', X', e', ex, ⟨cloneOf cl, A', r⟩, E', st⟩
end OwnKit
theorem pd_0 : parseMethodDescriptor "(I)Lcom/example/ruled_ledger/ruledledger/model/Propagation;" = some ⟨[.int], some (.object "com/example/ruled_ledger/ruledledger/model/Propagation")⟩ := by decide +kernel
theorem pd_1 : parseMethodDescriptor "()Z" = some ⟨[], some .boolean⟩ := by decide +kernel
theorem pd_2 : parseMethodDescriptor "(I)Z" = some ⟨[.int], some .boolean⟩ := by decide +kernel
theorem d1_0 : decode method_2_code 0 = .ok (.iload_n 0, 1) := by decide +kernel
theorem d1_1 : decode method_2_code 1 = .ok (.ifCond .ne 7, 3) := by decide +kernel
theorem d1_4 : decode method_2_code 4 = .ok (.getstatic 7, 3) := by decide +kernel
theorem d1_7 : decode method_2_code 7 = .ok (.areturn, 1) := by decide +kernel
theorem d1_8 : decode method_2_code 8 = .ok (.iload_n 0, 1) := by decide +kernel
theorem d1_9 : decode method_2_code 9 = .ok (.iconst 1, 1) := by decide +kernel
theorem d1_10 : decode method_2_code 10 = .ok (.if_icmp .ne 7, 3) := by decide +kernel
theorem d1_13 : decode method_2_code 13 = .ok (.getstatic 13, 3) := by decide +kernel
theorem d1_16 : decode method_2_code 16 = .ok (.areturn, 1) := by decide +kernel
theorem d1_17 : decode method_2_code 17 = .ok (.iload_n 0, 1) := by decide +kernel
theorem d1_18 : decode method_2_code 18 = .ok (.iconst 2, 1) := by decide +kernel
theorem d1_19 : decode method_2_code 19 = .ok (.if_icmp .ne 7, 3) := by decide +kernel
theorem d1_22 : decode method_2_code 22 = .ok (.getstatic 16, 3) := by decide +kernel
theorem d1_25 : decode method_2_code 25 = .ok (.areturn, 1) := by decide +kernel
theorem d1_26 : decode method_2_code 26 = .ok (.iload_n 0, 1) := by decide +kernel
theorem d1_27 : decode method_2_code 27 = .ok (.iconst 3, 1) := by decide +kernel
theorem d1_28 : decode method_2_code 28 = .ok (.if_icmp .ne 7, 3) := by decide +kernel
theorem d1_31 : decode method_2_code 31 = .ok (.getstatic 19, 3) := by decide +kernel
theorem d1_34 : decode method_2_code 34 = .ok (.areturn, 1) := by decide +kernel
theorem d1_35 : decode method_2_code 35 = .ok (.iload_n 0, 1) := by decide +kernel
theorem d1_36 : decode method_2_code 36 = .ok (.iconst 4, 1) := by decide +kernel
theorem d1_37 : decode method_2_code 37 = .ok (.if_icmp .ne 7, 3) := by decide +kernel
theorem d1_40 : decode method_2_code 40 = .ok (.getstatic 22, 3) := by decide +kernel
theorem d1_43 : decode method_2_code 43 = .ok (.areturn, 1) := by decide +kernel
theorem d1_44 : decode method_2_code 44 = .ok (.iload_n 0, 1) := by decide +kernel
theorem d1_45 : decode method_2_code 45 = .ok (.iconst 5, 1) := by decide +kernel
theorem d1_46 : decode method_2_code 46 = .ok (.if_icmp .ne 7, 3) := by decide +kernel
theorem d1_49 : decode method_2_code 49 = .ok (.getstatic 25, 3) := by decide +kernel
theorem d1_52 : decode method_2_code 52 = .ok (.areturn, 1) := by decide +kernel
theorem d1_53 : decode method_2_code 53 = .ok (.getstatic 28, 3) := by decide +kernel
theorem d1_56 : decode method_2_code 56 = .ok (.areturn, 1) := by decide +kernel
def PK (p1 : Int32) (sx_REQUIRED : Addr) (sx_REQUIRES_NEW : Addr) (sx_NEVER : Addr) (sx_NESTED : Addr) (sx_MANDATORY : Addr) (sx_NOT_SUPPORTED : Addr) (sx_SUPPORTS : Addr) : Addr := (if p1 = (0 : Int32) then sx_REQUIRED
  else (if p1 = (1 : Int32) then sx_SUPPORTS
    else (if p1 = (2 : Int32) then sx_MANDATORY
      else (if p1 = (3 : Int32) then sx_REQUIRES_NEW
        else (if p1 = (4 : Int32) then sx_NOT_SUPPORTED
          else (if p1 = (5 : Int32) then sx_NEVER
            else sx_NESTED))))))
theorem pn_1 : plainName "com/example/ruled_ledger/ruledledger/model/PropagationRunsInTransactionPinLaw" = true := by first | (simp [plainName, overriddenIn]; done) | decide +kernel
theorem ef_1 (m : MethodId) (p1 : Int32) : entryFrame m #[(.int p1)] 1 = mkF m 0 #[.val (.int p1)] [] := by first | (simp [entryFrame, mkF, argsToLocals, Value.category]; done) | rfl
def Qrm1 (Z : State) (p1 : Int32) (sx_REQUIRED : Addr) (sx_REQUIRES_NEW : Addr) (sx_NEVER : Addr) (sx_NESTED : Addr) (sx_MANDATORY : Addr) (sx_NOT_SUPPORTED : Addr) (sx_SUPPORTS : Addr) (h0 : Heap) (n0 : Nat) : Option Value → Heap → List Loc → Prop := fun v h L => v = some (.ref (PK p1 sx_REQUIRED sx_REQUIRES_NEW sx_NEVER sx_NESTED sx_MANDATORY sx_NOT_SUPPORTED sx_SUPPORTS)) ∧ Fr n0 L ∧ h = h0
set_option maxRecDepth 65536 in
set_option maxHeartbeats 40000000 in
theorem rm1 (l : Launch) (Z : State) (a0 : Array Value) (hw : ∀ d ∈ tables_1, d.before a0 Z = true) (ws : List Jvm.Cond) (p1 : Int32) (sx_REQUIRED : Addr) (sx_REQUIRES_NEW : Addr) (sx_NEVER : Addr) (sx_NESTED : Addr) (sx_MANDATORY : Addr) (sx_NOT_SUPPORTED : Addr) (sx_SUPPORTS : Addr) (h0 : Heap) (n0 : Nat) (Z0 : n0 ≤ h0.size) (S_sx_REQUIRED : Sta Z h0 "com/example/ruled_ledger/ruledledger/model/Propagation" "REQUIRED" "Lcom/example/ruled_ledger/ruledledger/model/Propagation;" (.ref sx_REQUIRED)) (E_sx_REQUIRED : Exa Z h0 sx_REQUIRED "com/example/ruled_ledger/ruledledger/model/Propagation") (S_sx_REQUIRES_NEW : Sta Z h0 "com/example/ruled_ledger/ruledledger/model/Propagation" "REQUIRES_NEW" "Lcom/example/ruled_ledger/ruledledger/model/Propagation;" (.ref sx_REQUIRES_NEW)) (E_sx_REQUIRES_NEW : Exa Z h0 sx_REQUIRES_NEW "com/example/ruled_ledger/ruledledger/model/Propagation") (S_sx_NEVER : Sta Z h0 "com/example/ruled_ledger/ruledledger/model/Propagation" "NEVER" "Lcom/example/ruled_ledger/ruledledger/model/Propagation;" (.ref sx_NEVER)) (E_sx_NEVER : Exa Z h0 sx_NEVER "com/example/ruled_ledger/ruledledger/model/Propagation") (S_sx_NESTED : Sta Z h0 "com/example/ruled_ledger/ruledledger/model/Propagation" "NESTED" "Lcom/example/ruled_ledger/ruledledger/model/Propagation;" (.ref sx_NESTED)) (E_sx_NESTED : Exa Z h0 sx_NESTED "com/example/ruled_ledger/ruledledger/model/Propagation") (S_sx_MANDATORY : Sta Z h0 "com/example/ruled_ledger/ruledledger/model/Propagation" "MANDATORY" "Lcom/example/ruled_ledger/ruledledger/model/Propagation;" (.ref sx_MANDATORY)) (E_sx_MANDATORY : Exa Z h0 sx_MANDATORY "com/example/ruled_ledger/ruledledger/model/Propagation") (S_sx_NOT_SUPPORTED : Sta Z h0 "com/example/ruled_ledger/ruledledger/model/Propagation" "NOT_SUPPORTED" "Lcom/example/ruled_ledger/ruledledger/model/Propagation;" (.ref sx_NOT_SUPPORTED)) (E_sx_NOT_SUPPORTED : Exa Z h0 sx_NOT_SUPPORTED "com/example/ruled_ledger/ruledledger/model/Propagation") (S_sx_SUPPORTS : Sta Z h0 "com/example/ruled_ledger/ruledledger/model/Propagation" "SUPPORTS" "Lcom/example/ruled_ledger/ruledledger/model/Propagation;" (.ref sx_SUPPORTS)) (E_sx_SUPPORTS : Exa Z h0 sx_SUPPORTS "com/example/ruled_ledger/ruledledger/model/Propagation") (F_sx_REQUIRES_NEW_ordinal : Fld Z h0 sx_REQUIRES_NEW "java/lang/Enum" "ordinal" "I" (.int (3 : Int32))) (F_sx_REQUIRED_ordinal : Fld Z h0 sx_REQUIRED "java/lang/Enum" "ordinal" "I" (.int (0 : Int32))) (F_sx_NEVER_ordinal : Fld Z h0 sx_NEVER "java/lang/Enum" "ordinal" "I" (.int (5 : Int32))) (F_sx_NESTED_ordinal : Fld Z h0 sx_NESTED "java/lang/Enum" "ordinal" "I" (.int (6 : Int32))) (F_sx_MANDATORY_ordinal : Fld Z h0 sx_MANDATORY "java/lang/Enum" "ordinal" "I" (.int (2 : Int32))) (F_sx_NOT_SUPPORTED_ordinal : Fld Z h0 sx_NOT_SUPPORTED "java/lang/Enum" "ordinal" "I" (.int (4 : Int32))) (F_sx_SUPPORTS_ordinal : Fld Z h0 sx_SUPPORTS "java/lang/Enum" "ordinal" "I" (.int (1 : Int32))) :
    MetFree l (⟨"com/example/ruled_ledger/ruledledger/model/PropagationRunsInTransactionPinLaw", "pick", "(I)Lcom/example/ruled_ledger/ruledledger/model/Propagation;"⟩ : MethodName) (head1 (Jvm.Cond.code (⟨"com/example/ruled_ledger/ruledledger/model/PropagationRunsInTransactionPinLaw", "pick", "(I)Lcom/example/ruled_ledger/ruledledger/model/Propagation;"⟩ : MethodName) method_2_code 1 (some (.object "com/example/ruled_ledger/ruledledger/model/Propagation")) :: ws) ({ frames := 0, cells := 0, slots := 0, locals := 0 } : Room)) (fun a U => a = #[(.int p1)] ∧ Z.Warmed39 U.vm ∧ U.heap = h0) (fun _ _ _ _ _ => True) (fun _ U o U' => ∃ v L, o = .returned v ∧ Qrm1 Z p1 sx_REQUIRED sx_REQUIRES_NEW sx_NEVER sx_NESTED sx_MANDATORY sx_NOT_SUPPORTED sx_SUPPORTS h0 n0 v U'.heap L ∧ FrameEnd U o U' L ({ frames := 0, cells := 0, slots := 0, locals := 0 } : Room).cells ({ frames := 0, cells := 0, slots := 0, locals := 0 } : Room).slots) := by
  refine MetFree.of_bodySF (plainFor_of_name pn_1) hisR ?_
  intro p e s m args below meth c s₁ Bd hml0 hP hK
  obtain ⟨rfl, hZ, hh⟩ := hP
  have hx := Bd.exec
  have hby := Bd.bytes
  have hml : c.maxLocals = 1 := hml0
  have hown : s.vm.findClass "com/example/ruled_ledger/ruledledger/model/PropagationRunsInTransactionPinLaw" = some m.cls := findClass_of_methodNamed Bd.named
  have hnm := (name_of_methodNamed Bd.named Bd.method).1
  have hlk : meth.locks = false := BodyLoose.notSynchronized Bd
  have hret := Bd.returns
  have X0 : Stand p l e ({ frames := 0, cells := 0, slots := 0, locals := 0 } : Room) s m #[(.int p1)] below meth c s₁ [] 0 0 := Stand.of_body Bd
  have e0 : s₁.heap = h0 := by rw [← hh, Bd.state]; rfl
  have N0 := Fr.nil n0
  show Done p e below s (Qrm1 Z p1 sx_REQUIRED sx_REQUIRES_NEW sx_NEVER sx_NESTED sx_MANDATORY sx_NOT_SUPPORTED sx_SUPPORTS h0 n0) ({ frames := 0, cells := 0, slots := 0, locals := 0 } : Room).cells ({ frames := 0, cells := 0, slots := 0, locals := 0 } : Room).slots (s₁.setTop (entryFrame m #[(.int p1)] 1))
  refine Done.step (fun t k => castTop (ef_1 m p1) k) ?_
  show Done p e below s _ _ _ (s₁.setTop (mkF m 0 #[.val (.int p1)] []))
  refine Done.step (fun t k => XS.iloadN X0.here hx rfl (hb hby d1_0) rfl k) ?_
  show Done p e below s _ _ _ (s₁.setTop (mkF m 1 #[.val (.int p1)] [(.int p1)]))
  by_cases c1 : p1 = (0 : Int32)
  · refine Done.step (fun t k => XS.ifNo X0.here hx rfl (hb hby d1_1) rfl ((if0 _ _).trans (teq c1).2) k) ?_
    show Done p e below s _ _ _ (s₁.setTop (mkF m 4 #[.val (.int p1)] []))
    obtain ⟨T2, X2, e2, st2⟩ := getS2 X0 hx hZ hown (host := "") (Or.inl (hw _ (List.mem_of_getElem? (i := 5) rfl))) Via.refl e0 S_sx_REQUIRED (g := (mkF m 4 #[.val (.int p1)] [])) rfl (hb hby d1_4)
    refine Done.step st2 ?_
    show Done p e below s _ _ _ (T2.setTop (mkF m 7 #[.val (.int p1)] [(.ref sx_REQUIRED)]))
    exact Done.ref X2 hx hlk hret rfl rfl rfl (hb hby d1_7) (by decide) (by decide) ⟨by rw [show PK p1 sx_REQUIRED sx_REQUIRES_NEW sx_NEVER sx_NESTED sx_MANDATORY sx_NOT_SUPPORTED sx_SUPPORTS = sx_REQUIRED from by unfold PK; rw [if_pos c1]], N0, e2⟩
  · refine Done.step (fun t k => XS.ifYes X0.here hx rfl (pc0 := 1) (pc' := 8) rfl (hb hby d1_1) rfl ((if0 _ _).trans (feq c1).2) (by decide) (by decide) k) ?_
    show Done p e below s _ _ _ (s₁.setTop (mkF m 8 #[.val (.int p1)] []))
    refine Done.step (fun t k => XS.iloadN X0.here hx rfl (hb hby d1_8) rfl k) ?_
    show Done p e below s _ _ _ (s₁.setTop (mkF m 9 #[.val (.int p1)] [(.int p1)]))
    refine Done.step (fun t k => XS.iconst X0.here hx rfl (hb hby d1_9) k) ?_
    show Done p e below s _ _ _ (s₁.setTop (mkF m 10 #[.val (.int p1)] [(.int (1 : Int32)), (.int p1)]))
    by_cases c3 : p1 = (1 : Int32)
    · refine Done.step (fun t k => XS.icmpNo X0.here hx rfl (hb hby d1_10) rfl (teq c3).2 k) ?_
      show Done p e below s _ _ _ (s₁.setTop (mkF m 13 #[.val (.int p1)] []))
      obtain ⟨T4, X4, e4, st4⟩ := getS2 X0 hx hZ hown (host := "") (Or.inl (hw _ (List.mem_of_getElem? (i := 30) rfl))) Via.refl e0 S_sx_SUPPORTS (g := (mkF m 13 #[.val (.int p1)] [])) rfl (hb hby d1_13)
      refine Done.step st4 ?_
      show Done p e below s _ _ _ (T4.setTop (mkF m 16 #[.val (.int p1)] [(.ref sx_SUPPORTS)]))
      exact Done.ref X4 hx hlk hret rfl rfl rfl (hb hby d1_16) (by decide) (by decide) ⟨by rw [show PK p1 sx_REQUIRED sx_REQUIRES_NEW sx_NEVER sx_NESTED sx_MANDATORY sx_NOT_SUPPORTED sx_SUPPORTS = sx_SUPPORTS from by unfold PK; rw [if_neg c1, if_pos c3]], N0, e4⟩
    · refine Done.step (fun t k => XS.icmpYes X0.here hx rfl (pc0 := 10) (pc' := 17) rfl (hb hby d1_10) rfl (feq c3).2 (by decide) (by decide) k) ?_
      show Done p e below s _ _ _ (s₁.setTop (mkF m 17 #[.val (.int p1)] []))
      refine Done.step (fun t k => XS.iloadN X0.here hx rfl (hb hby d1_17) rfl k) ?_
      show Done p e below s _ _ _ (s₁.setTop (mkF m 18 #[.val (.int p1)] [(.int p1)]))
      refine Done.step (fun t k => XS.iconst X0.here hx rfl (hb hby d1_18) k) ?_
      show Done p e below s _ _ _ (s₁.setTop (mkF m 19 #[.val (.int p1)] [(.int (2 : Int32)), (.int p1)]))
      by_cases c5 : p1 = (2 : Int32)
      · refine Done.step (fun t k => XS.icmpNo X0.here hx rfl (hb hby d1_19) rfl (teq c5).2 k) ?_
        show Done p e below s _ _ _ (s₁.setTop (mkF m 22 #[.val (.int p1)] []))
        obtain ⟨T6, X6, e6, st6⟩ := getS2 X0 hx hZ hown (host := "") (Or.inl (hw _ (List.mem_of_getElem? (i := 29) rfl))) Via.refl e0 S_sx_MANDATORY (g := (mkF m 22 #[.val (.int p1)] [])) rfl (hb hby d1_22)
        refine Done.step st6 ?_
        show Done p e below s _ _ _ (T6.setTop (mkF m 25 #[.val (.int p1)] [(.ref sx_MANDATORY)]))
        exact Done.ref X6 hx hlk hret rfl rfl rfl (hb hby d1_25) (by decide) (by decide) ⟨by rw [show PK p1 sx_REQUIRED sx_REQUIRES_NEW sx_NEVER sx_NESTED sx_MANDATORY sx_NOT_SUPPORTED sx_SUPPORTS = sx_MANDATORY from by unfold PK; rw [if_neg c1, if_neg c3, if_pos c5]], N0, e6⟩
      · refine Done.step (fun t k => XS.icmpYes X0.here hx rfl (pc0 := 19) (pc' := 26) rfl (hb hby d1_19) rfl (feq c5).2 (by decide) (by decide) k) ?_
        show Done p e below s _ _ _ (s₁.setTop (mkF m 26 #[.val (.int p1)] []))
        refine Done.step (fun t k => XS.iloadN X0.here hx rfl (hb hby d1_26) rfl k) ?_
        show Done p e below s _ _ _ (s₁.setTop (mkF m 27 #[.val (.int p1)] [(.int p1)]))
        refine Done.step (fun t k => XS.iconst X0.here hx rfl (hb hby d1_27) k) ?_
        show Done p e below s _ _ _ (s₁.setTop (mkF m 28 #[.val (.int p1)] [(.int (3 : Int32)), (.int p1)]))
        by_cases c7 : p1 = (3 : Int32)
        · refine Done.step (fun t k => XS.icmpNo X0.here hx rfl (hb hby d1_28) rfl (teq c7).2 k) ?_
          show Done p e below s _ _ _ (s₁.setTop (mkF m 31 #[.val (.int p1)] []))
          obtain ⟨T8, X8, e8, st8⟩ := getS2 X0 hx hZ hown (host := "") (Or.inl (hw _ (List.mem_of_getElem? (i := 17) rfl))) Via.refl e0 S_sx_REQUIRES_NEW (g := (mkF m 31 #[.val (.int p1)] [])) rfl (hb hby d1_31)
          refine Done.step st8 ?_
          show Done p e below s _ _ _ (T8.setTop (mkF m 34 #[.val (.int p1)] [(.ref sx_REQUIRES_NEW)]))
          exact Done.ref X8 hx hlk hret rfl rfl rfl (hb hby d1_34) (by decide) (by decide) ⟨by rw [show PK p1 sx_REQUIRED sx_REQUIRES_NEW sx_NEVER sx_NESTED sx_MANDATORY sx_NOT_SUPPORTED sx_SUPPORTS = sx_REQUIRES_NEW from by unfold PK; rw [if_neg c1, if_neg c3, if_neg c5, if_pos c7]], N0, e8⟩
        · refine Done.step (fun t k => XS.icmpYes X0.here hx rfl (pc0 := 28) (pc' := 35) rfl (hb hby d1_28) rfl (feq c7).2 (by decide) (by decide) k) ?_
          show Done p e below s _ _ _ (s₁.setTop (mkF m 35 #[.val (.int p1)] []))
          refine Done.step (fun t k => XS.iloadN X0.here hx rfl (hb hby d1_35) rfl k) ?_
          show Done p e below s _ _ _ (s₁.setTop (mkF m 36 #[.val (.int p1)] [(.int p1)]))
          refine Done.step (fun t k => XS.iconst X0.here hx rfl (hb hby d1_36) k) ?_
          show Done p e below s _ _ _ (s₁.setTop (mkF m 37 #[.val (.int p1)] [(.int (4 : Int32)), (.int p1)]))
          by_cases c9 : p1 = (4 : Int32)
          · refine Done.step (fun t k => XS.icmpNo X0.here hx rfl (hb hby d1_37) rfl (teq c9).2 k) ?_
            show Done p e below s _ _ _ (s₁.setTop (mkF m 40 #[.val (.int p1)] []))
            obtain ⟨T10, X10, e10, st10⟩ := getS2 X0 hx hZ hown (host := "") (Or.inl (hw _ (List.mem_of_getElem? (i := 27) rfl))) Via.refl e0 S_sx_NOT_SUPPORTED (g := (mkF m 40 #[.val (.int p1)] [])) rfl (hb hby d1_40)
            refine Done.step st10 ?_
            show Done p e below s _ _ _ (T10.setTop (mkF m 43 #[.val (.int p1)] [(.ref sx_NOT_SUPPORTED)]))
            exact Done.ref X10 hx hlk hret rfl rfl rfl (hb hby d1_43) (by decide) (by decide) ⟨by rw [show PK p1 sx_REQUIRED sx_REQUIRES_NEW sx_NEVER sx_NESTED sx_MANDATORY sx_NOT_SUPPORTED sx_SUPPORTS = sx_NOT_SUPPORTED from by unfold PK; rw [if_neg c1, if_neg c3, if_neg c5, if_neg c7, if_pos c9]], N0, e10⟩
          · refine Done.step (fun t k => XS.icmpYes X0.here hx rfl (pc0 := 37) (pc' := 44) rfl (hb hby d1_37) rfl (feq c9).2 (by decide) (by decide) k) ?_
            show Done p e below s _ _ _ (s₁.setTop (mkF m 44 #[.val (.int p1)] []))
            refine Done.step (fun t k => XS.iloadN X0.here hx rfl (hb hby d1_44) rfl k) ?_
            show Done p e below s _ _ _ (s₁.setTop (mkF m 45 #[.val (.int p1)] [(.int p1)]))
            refine Done.step (fun t k => XS.iconst X0.here hx rfl (hb hby d1_45) k) ?_
            show Done p e below s _ _ _ (s₁.setTop (mkF m 46 #[.val (.int p1)] [(.int (5 : Int32)), (.int p1)]))
            by_cases c11 : p1 = (5 : Int32)
            · refine Done.step (fun t k => XS.icmpNo X0.here hx rfl (hb hby d1_46) rfl (teq c11).2 k) ?_
              show Done p e below s _ _ _ (s₁.setTop (mkF m 49 #[.val (.int p1)] []))
              obtain ⟨T12, X12, e12, st12⟩ := getS2 X0 hx hZ hown (host := "") (Or.inl (hw _ (List.mem_of_getElem? (i := 20) rfl))) Via.refl e0 S_sx_NEVER (g := (mkF m 49 #[.val (.int p1)] [])) rfl (hb hby d1_49)
              refine Done.step st12 ?_
              show Done p e below s _ _ _ (T12.setTop (mkF m 52 #[.val (.int p1)] [(.ref sx_NEVER)]))
              exact Done.ref X12 hx hlk hret rfl rfl rfl (hb hby d1_52) (by decide) (by decide) ⟨by rw [show PK p1 sx_REQUIRED sx_REQUIRES_NEW sx_NEVER sx_NESTED sx_MANDATORY sx_NOT_SUPPORTED sx_SUPPORTS = sx_NEVER from by unfold PK; rw [if_neg c1, if_neg c3, if_neg c5, if_neg c7, if_neg c9, if_pos c11]], N0, e12⟩
            · refine Done.step (fun t k => XS.icmpYes X0.here hx rfl (pc0 := 46) (pc' := 53) rfl (hb hby d1_46) rfl (feq c11).2 (by decide) (by decide) k) ?_
              show Done p e below s _ _ _ (s₁.setTop (mkF m 53 #[.val (.int p1)] []))
              obtain ⟨T13, X13, e13, st13⟩ := getS2 X0 hx hZ hown (host := "") (Or.inl (hw _ (List.mem_of_getElem? (i := 26) rfl))) Via.refl e0 S_sx_NESTED (g := (mkF m 53 #[.val (.int p1)] [])) rfl (hb hby d1_53)
              refine Done.step st13 ?_
              show Done p e below s _ _ _ (T13.setTop (mkF m 56 #[.val (.int p1)] [(.ref sx_NESTED)]))
              exact Done.ref X13 hx hlk hret rfl rfl rfl (hb hby d1_56) (by decide) (by decide) ⟨by rw [show PK p1 sx_REQUIRED sx_REQUIRES_NEW sx_NEVER sx_NESTED sx_MANDATORY sx_NOT_SUPPORTED sx_SUPPORTS = sx_NESTED from by unfold PK; rw [if_neg c1, if_neg c3, if_neg c5, if_neg c7, if_neg c9, if_neg c11]], N0, e13⟩
theorem d2_0 : decode prog_25_method_4_code 0 = .ok (.aload_n 0, 1) := by decide +kernel
theorem d2_1 : decode prog_25_method_4_code 1 = .ok (.getstatic 3, 3) := by decide +kernel
theorem d2_4 : decode prog_25_method_4_code 4 = .ok (.if_acmp .eq 24, 3) := by decide +kernel
theorem d2_7 : decode prog_25_method_4_code 7 = .ok (.aload_n 0, 1) := by decide +kernel
theorem d2_8 : decode prog_25_method_4_code 8 = .ok (.getstatic 13, 3) := by decide +kernel
theorem d2_11 : decode prog_25_method_4_code 11 = .ok (.if_acmp .eq 17, 3) := by decide +kernel
theorem d2_14 : decode prog_25_method_4_code 14 = .ok (.aload_n 0, 1) := by decide +kernel
theorem d2_15 : decode prog_25_method_4_code 15 = .ok (.getstatic 22, 3) := by decide +kernel
theorem d2_18 : decode prog_25_method_4_code 18 = .ok (.if_acmp .eq 10, 3) := by decide +kernel
theorem d2_21 : decode prog_25_method_4_code 21 = .ok (.aload_n 0, 1) := by decide +kernel
theorem d2_22 : decode prog_25_method_4_code 22 = .ok (.getstatic 10, 3) := by decide +kernel
theorem d2_25 : decode prog_25_method_4_code 25 = .ok (.if_acmp .ne 7, 3) := by decide +kernel
theorem d2_28 : decode prog_25_method_4_code 28 = .ok (.iconst 1, 1) := by decide +kernel
theorem d2_29 : decode prog_25_method_4_code 29 = .ok (.goto 4, 3) := by decide +kernel
theorem d2_32 : decode prog_25_method_4_code 32 = .ok (.iconst 0, 1) := by decide +kernel
theorem d2_33 : decode prog_25_method_4_code 33 = .ok (.ireturn, 1) := by decide +kernel
def RT (a1 : Addr) (sx_REQUIRED : Addr) (sx_REQUIRES_NEW : Addr) (sx_NEVER : Addr) (sx_NESTED : Addr) (sx_MANDATORY : Addr) (sx_NOT_SUPPORTED : Addr) (sx_SUPPORTS : Addr) : Int32 := (if a1 = sx_REQUIRED then (1 : Int32)
  else (if a1 = sx_REQUIRES_NEW then (1 : Int32)
    else (if a1 = sx_NESTED then (1 : Int32)
      else (if a1 = sx_MANDATORY then (1 : Int32)
        else (0 : Int32)))))
theorem pn_2 : plainName "com/example/ruled_ledger/ruledledger/model/Propagation" = true := by first | (simp [plainName, overriddenIn]; done) | decide +kernel
theorem ef_2 (m : MethodId) (a1 : Addr) : entryFrame m #[(.ref a1)] 1 = mkF m 0 #[.val (.ref a1)] [] := by first | (simp [entryFrame, mkF, argsToLocals, Value.category]; done) | rfl
def Qrm2 (Z : State) (a1 : Addr) (sx_REQUIRED : Addr) (sx_REQUIRES_NEW : Addr) (sx_NEVER : Addr) (sx_NESTED : Addr) (sx_MANDATORY : Addr) (sx_NOT_SUPPORTED : Addr) (sx_SUPPORTS : Addr) (h0 : Heap) (n0 : Nat) : Option Value → Heap → List Loc → Prop := fun v h L => v = some (.int (RT a1 sx_REQUIRED sx_REQUIRES_NEW sx_NEVER sx_NESTED sx_MANDATORY sx_NOT_SUPPORTED sx_SUPPORTS)) ∧ Fr n0 L ∧ h = h0
set_option maxRecDepth 65536 in
set_option maxHeartbeats 40000000 in
theorem rm2 (l : Launch) (Z : State) (a0 : Array Value) (hw : ∀ d ∈ tables_1, d.before a0 Z = true) (ws : List Jvm.Cond) (a1 : Addr) (sx_REQUIRED : Addr) (sx_REQUIRES_NEW : Addr) (sx_NEVER : Addr) (sx_NESTED : Addr) (sx_MANDATORY : Addr) (sx_NOT_SUPPORTED : Addr) (sx_SUPPORTS : Addr) (h0 : Heap) (n0 : Nat) (Z0 : n0 ≤ h0.size) (S_sx_REQUIRED : Sta Z h0 "com/example/ruled_ledger/ruledledger/model/Propagation" "REQUIRED" "Lcom/example/ruled_ledger/ruledledger/model/Propagation;" (.ref sx_REQUIRED)) (E_sx_REQUIRED : Exa Z h0 sx_REQUIRED "com/example/ruled_ledger/ruledledger/model/Propagation") (S_sx_REQUIRES_NEW : Sta Z h0 "com/example/ruled_ledger/ruledledger/model/Propagation" "REQUIRES_NEW" "Lcom/example/ruled_ledger/ruledledger/model/Propagation;" (.ref sx_REQUIRES_NEW)) (E_sx_REQUIRES_NEW : Exa Z h0 sx_REQUIRES_NEW "com/example/ruled_ledger/ruledledger/model/Propagation") (S_sx_NEVER : Sta Z h0 "com/example/ruled_ledger/ruledledger/model/Propagation" "NEVER" "Lcom/example/ruled_ledger/ruledledger/model/Propagation;" (.ref sx_NEVER)) (E_sx_NEVER : Exa Z h0 sx_NEVER "com/example/ruled_ledger/ruledledger/model/Propagation") (S_sx_NESTED : Sta Z h0 "com/example/ruled_ledger/ruledledger/model/Propagation" "NESTED" "Lcom/example/ruled_ledger/ruledledger/model/Propagation;" (.ref sx_NESTED)) (E_sx_NESTED : Exa Z h0 sx_NESTED "com/example/ruled_ledger/ruledledger/model/Propagation") (S_sx_MANDATORY : Sta Z h0 "com/example/ruled_ledger/ruledledger/model/Propagation" "MANDATORY" "Lcom/example/ruled_ledger/ruledledger/model/Propagation;" (.ref sx_MANDATORY)) (E_sx_MANDATORY : Exa Z h0 sx_MANDATORY "com/example/ruled_ledger/ruledledger/model/Propagation") (S_sx_NOT_SUPPORTED : Sta Z h0 "com/example/ruled_ledger/ruledledger/model/Propagation" "NOT_SUPPORTED" "Lcom/example/ruled_ledger/ruledledger/model/Propagation;" (.ref sx_NOT_SUPPORTED)) (E_sx_NOT_SUPPORTED : Exa Z h0 sx_NOT_SUPPORTED "com/example/ruled_ledger/ruledledger/model/Propagation") (S_sx_SUPPORTS : Sta Z h0 "com/example/ruled_ledger/ruledledger/model/Propagation" "SUPPORTS" "Lcom/example/ruled_ledger/ruledledger/model/Propagation;" (.ref sx_SUPPORTS)) (E_sx_SUPPORTS : Exa Z h0 sx_SUPPORTS "com/example/ruled_ledger/ruledledger/model/Propagation") (F_sx_REQUIRES_NEW_ordinal : Fld Z h0 sx_REQUIRES_NEW "java/lang/Enum" "ordinal" "I" (.int (3 : Int32))) (F_sx_REQUIRED_ordinal : Fld Z h0 sx_REQUIRED "java/lang/Enum" "ordinal" "I" (.int (0 : Int32))) (F_sx_NEVER_ordinal : Fld Z h0 sx_NEVER "java/lang/Enum" "ordinal" "I" (.int (5 : Int32))) (F_sx_NESTED_ordinal : Fld Z h0 sx_NESTED "java/lang/Enum" "ordinal" "I" (.int (6 : Int32))) (F_sx_MANDATORY_ordinal : Fld Z h0 sx_MANDATORY "java/lang/Enum" "ordinal" "I" (.int (2 : Int32))) (F_sx_NOT_SUPPORTED_ordinal : Fld Z h0 sx_NOT_SUPPORTED "java/lang/Enum" "ordinal" "I" (.int (4 : Int32))) (F_sx_SUPPORTS_ordinal : Fld Z h0 sx_SUPPORTS "java/lang/Enum" "ordinal" "I" (.int (1 : Int32))) :
    MetFree l (⟨"com/example/ruled_ledger/ruledledger/model/Propagation", "runsInTransaction", "()Z"⟩ : MethodName) (head1 (Jvm.Cond.code (⟨"com/example/ruled_ledger/ruledledger/model/Propagation", "runsInTransaction", "()Z"⟩ : MethodName) prog_25_method_4_code 1 (some .boolean) :: ws) ({ frames := 0, cells := 0, slots := 0, locals := 0 } : Room)) (fun a U => a = #[(.ref a1)] ∧ Z.Warmed39 U.vm ∧ U.heap = h0) (fun _ _ _ _ _ => True) (fun _ U o U' => ∃ v L, o = .returned v ∧ Qrm2 Z a1 sx_REQUIRED sx_REQUIRES_NEW sx_NEVER sx_NESTED sx_MANDATORY sx_NOT_SUPPORTED sx_SUPPORTS h0 n0 v U'.heap L ∧ FrameEnd U o U' L ({ frames := 0, cells := 0, slots := 0, locals := 0 } : Room).cells ({ frames := 0, cells := 0, slots := 0, locals := 0 } : Room).slots) := by
  refine MetFree.of_bodySF (plainFor_of_name pn_2) hisR ?_
  intro p e s m args below meth c s₁ Bd hml0 hP hK
  obtain ⟨rfl, hZ, hh⟩ := hP
  have hx := Bd.exec
  have hby := Bd.bytes
  have hml : c.maxLocals = 1 := hml0
  have hown : s.vm.findClass "com/example/ruled_ledger/ruledledger/model/Propagation" = some m.cls := findClass_of_methodNamed Bd.named
  have hnm := (name_of_methodNamed Bd.named Bd.method).1
  have hlk : meth.locks = false := BodyLoose.notSynchronized Bd
  have hret := Bd.returns
  have X0 : Stand p l e ({ frames := 0, cells := 0, slots := 0, locals := 0 } : Room) s m #[(.ref a1)] below meth c s₁ [] 0 0 := Stand.of_body Bd
  have e0 : s₁.heap = h0 := by rw [← hh, Bd.state]; rfl
  have N0 := Fr.nil n0
  show Done p e below s (Qrm2 Z a1 sx_REQUIRED sx_REQUIRES_NEW sx_NEVER sx_NESTED sx_MANDATORY sx_NOT_SUPPORTED sx_SUPPORTS h0 n0) ({ frames := 0, cells := 0, slots := 0, locals := 0 } : Room).cells ({ frames := 0, cells := 0, slots := 0, locals := 0 } : Room).slots (s₁.setTop (entryFrame m #[(.ref a1)] 1))
  refine Done.step (fun t k => castTop (ef_2 m a1) k) ?_
  show Done p e below s _ _ _ (s₁.setTop (mkF m 0 #[.val (.ref a1)] []))
  refine Done.step (fun t k => XS.aloadN X0.here hx rfl (hb hby d2_0) rfl rfl k) ?_
  show Done p e below s _ _ _ (s₁.setTop (mkF m 1 #[.val (.ref a1)] [(.ref a1)]))
  obtain ⟨T1, X1, e1, st1⟩ := getS2 X0 hx hZ hown (host := "") (Or.inl (hw _ (List.mem_of_getElem? (i := 13) rfl))) Via.refl e0 S_sx_REQUIRED (g := (mkF m 1 #[.val (.ref a1)] [(.ref a1)])) rfl (hb hby d2_1)
  refine Done.step st1 ?_
  show Done p e below s _ _ _ (T1.setTop (mkF m 4 #[.val (.ref a1)] [(.ref sx_REQUIRED), (.ref a1)]))
  by_cases c2 : a1 = sx_REQUIRED
  · refine Done.step (fun t k => Jvm.RoadKit.acmp (g := (mkF m 4 #[.val (.ref a1)] [(.ref sx_REQUIRED), (.ref a1)])) X1 hx rfl rfl rfl (pc0 := 4) (pc' := 28) (same := true) rfl (hb hby d2_4) rfl (decide_eq_true (congrArg Value.ref c2)) (by decide) (by decide) k) ?_
    show Done p e below s _ _ _ (T1.setTop (mkF m 28 #[.val (.ref a1)] []))
    refine Done.step (fun t k => XS.iconst X1.here hx rfl (hb hby d2_28) k) ?_
    show Done p e below s _ _ _ (T1.setTop (mkF m 29 #[.val (.ref a1)] [(.int (1 : Int32))]))
    refine Done.step (fun t k => XS.goto X1.here hx rfl (pc0 := 29) (pc' := 33) rfl (hb hby d2_29) (by decide) (by decide) k) ?_
    show Done p e below s _ _ _ (T1.setTop (mkF m 33 #[.val (.ref a1)] [(.int (1 : Int32))]))
    exact Done.narr X1 hx hlk hret (by simp) (hb hby d2_33) (by decide) (by decide) ⟨by rw [show RT a1 sx_REQUIRED sx_REQUIRES_NEW sx_NEVER sx_NESTED sx_MANDATORY sx_NOT_SUPPORTED sx_SUPPORTS = (1 : Int32) from by unfold RT; rw [if_pos c2]] <;> rfl, N0, e1⟩
  · refine Done.step (fun t k => Jvm.RoadKit.acmp (g := (mkF m 4 #[.val (.ref a1)] [(.ref sx_REQUIRED), (.ref a1)])) X1 hx rfl rfl rfl (pc0 := 4) (pc' := 7) (same := false) rfl (hb hby d2_4) rfl (decide_eq_false fun q => c2 (Value.ref.inj q)) (by decide) (by decide) k) ?_
    show Done p e below s _ _ _ (T1.setTop (mkF m 7 #[.val (.ref a1)] []))
    refine Done.step (fun t k => XS.aloadN X1.here hx rfl (hb hby d2_7) rfl rfl k) ?_
    show Done p e below s _ _ _ (T1.setTop (mkF m 8 #[.val (.ref a1)] [(.ref a1)]))
    obtain ⟨T3, X3, e3, st3⟩ := getS2 X1 hx hZ hown (host := "") (Or.inl (hw _ (List.mem_of_getElem? (i := 19) rfl))) Via.refl e1 S_sx_REQUIRES_NEW (g := (mkF m 8 #[.val (.ref a1)] [(.ref a1)])) rfl (hb hby d2_8)
    refine Done.step st3 ?_
    show Done p e below s _ _ _ (T3.setTop (mkF m 11 #[.val (.ref a1)] [(.ref sx_REQUIRES_NEW), (.ref a1)]))
    by_cases c4 : a1 = sx_REQUIRES_NEW
    · refine Done.step (fun t k => Jvm.RoadKit.acmp (g := (mkF m 11 #[.val (.ref a1)] [(.ref sx_REQUIRES_NEW), (.ref a1)])) X3 hx rfl rfl rfl (pc0 := 11) (pc' := 28) (same := true) rfl (hb hby d2_11) rfl (decide_eq_true (congrArg Value.ref c4)) (by decide) (by decide) k) ?_
      show Done p e below s _ _ _ (T3.setTop (mkF m 28 #[.val (.ref a1)] []))
      refine Done.step (fun t k => XS.iconst X3.here hx rfl (hb hby d2_28) k) ?_
      show Done p e below s _ _ _ (T3.setTop (mkF m 29 #[.val (.ref a1)] [(.int (1 : Int32))]))
      refine Done.step (fun t k => XS.goto X3.here hx rfl (pc0 := 29) (pc' := 33) rfl (hb hby d2_29) (by decide) (by decide) k) ?_
      show Done p e below s _ _ _ (T3.setTop (mkF m 33 #[.val (.ref a1)] [(.int (1 : Int32))]))
      exact Done.narr X3 hx hlk hret (by simp) (hb hby d2_33) (by decide) (by decide) ⟨by rw [show RT a1 sx_REQUIRED sx_REQUIRES_NEW sx_NEVER sx_NESTED sx_MANDATORY sx_NOT_SUPPORTED sx_SUPPORTS = (1 : Int32) from by unfold RT; rw [if_neg c2, if_pos c4]] <;> rfl, N0, e3⟩
    · refine Done.step (fun t k => Jvm.RoadKit.acmp (g := (mkF m 11 #[.val (.ref a1)] [(.ref sx_REQUIRES_NEW), (.ref a1)])) X3 hx rfl rfl rfl (pc0 := 11) (pc' := 14) (same := false) rfl (hb hby d2_11) rfl (decide_eq_false fun q => c4 (Value.ref.inj q)) (by decide) (by decide) k) ?_
      show Done p e below s _ _ _ (T3.setTop (mkF m 14 #[.val (.ref a1)] []))
      refine Done.step (fun t k => XS.aloadN X3.here hx rfl (hb hby d2_14) rfl rfl k) ?_
      show Done p e below s _ _ _ (T3.setTop (mkF m 15 #[.val (.ref a1)] [(.ref a1)]))
      obtain ⟨T5, X5, e5, st5⟩ := getS2 X3 hx hZ hown (host := "") (Or.inl (hw _ (List.mem_of_getElem? (i := 22) rfl))) Via.refl e3 S_sx_NESTED (g := (mkF m 15 #[.val (.ref a1)] [(.ref a1)])) rfl (hb hby d2_15)
      refine Done.step st5 ?_
      show Done p e below s _ _ _ (T5.setTop (mkF m 18 #[.val (.ref a1)] [(.ref sx_NESTED), (.ref a1)]))
      by_cases c6 : a1 = sx_NESTED
      · refine Done.step (fun t k => Jvm.RoadKit.acmp (g := (mkF m 18 #[.val (.ref a1)] [(.ref sx_NESTED), (.ref a1)])) X5 hx rfl rfl rfl (pc0 := 18) (pc' := 28) (same := true) rfl (hb hby d2_18) rfl (decide_eq_true (congrArg Value.ref c6)) (by decide) (by decide) k) ?_
        show Done p e below s _ _ _ (T5.setTop (mkF m 28 #[.val (.ref a1)] []))
        refine Done.step (fun t k => XS.iconst X5.here hx rfl (hb hby d2_28) k) ?_
        show Done p e below s _ _ _ (T5.setTop (mkF m 29 #[.val (.ref a1)] [(.int (1 : Int32))]))
        refine Done.step (fun t k => XS.goto X5.here hx rfl (pc0 := 29) (pc' := 33) rfl (hb hby d2_29) (by decide) (by decide) k) ?_
        show Done p e below s _ _ _ (T5.setTop (mkF m 33 #[.val (.ref a1)] [(.int (1 : Int32))]))
        exact Done.narr X5 hx hlk hret (by simp) (hb hby d2_33) (by decide) (by decide) ⟨by rw [show RT a1 sx_REQUIRED sx_REQUIRES_NEW sx_NEVER sx_NESTED sx_MANDATORY sx_NOT_SUPPORTED sx_SUPPORTS = (1 : Int32) from by unfold RT; rw [if_neg c2, if_neg c4, if_pos c6]] <;> rfl, N0, e5⟩
      · refine Done.step (fun t k => Jvm.RoadKit.acmp (g := (mkF m 18 #[.val (.ref a1)] [(.ref sx_NESTED), (.ref a1)])) X5 hx rfl rfl rfl (pc0 := 18) (pc' := 21) (same := false) rfl (hb hby d2_18) rfl (decide_eq_false fun q => c6 (Value.ref.inj q)) (by decide) (by decide) k) ?_
        show Done p e below s _ _ _ (T5.setTop (mkF m 21 #[.val (.ref a1)] []))
        refine Done.step (fun t k => XS.aloadN X5.here hx rfl (hb hby d2_21) rfl rfl k) ?_
        show Done p e below s _ _ _ (T5.setTop (mkF m 22 #[.val (.ref a1)] [(.ref a1)]))
        obtain ⟨T7, X7, e7, st7⟩ := getS2 X5 hx hZ hown (host := "") (Or.inl (hw _ (List.mem_of_getElem? (i := 24) rfl))) Via.refl e5 S_sx_MANDATORY (g := (mkF m 22 #[.val (.ref a1)] [(.ref a1)])) rfl (hb hby d2_22)
        refine Done.step st7 ?_
        show Done p e below s _ _ _ (T7.setTop (mkF m 25 #[.val (.ref a1)] [(.ref sx_MANDATORY), (.ref a1)]))
        by_cases c8 : a1 = sx_MANDATORY
        · refine Done.step (fun t k => Jvm.RoadKit.acmp (g := (mkF m 25 #[.val (.ref a1)] [(.ref sx_MANDATORY), (.ref a1)])) X7 hx rfl rfl rfl (pc0 := 25) (pc' := 28) (same := true) rfl (hb hby d2_25) rfl (decide_eq_true (congrArg Value.ref c8)) (by decide) (by decide) k) ?_
          show Done p e below s _ _ _ (T7.setTop (mkF m 28 #[.val (.ref a1)] []))
          refine Done.step (fun t k => XS.iconst X7.here hx rfl (hb hby d2_28) k) ?_
          show Done p e below s _ _ _ (T7.setTop (mkF m 29 #[.val (.ref a1)] [(.int (1 : Int32))]))
          refine Done.step (fun t k => XS.goto X7.here hx rfl (pc0 := 29) (pc' := 33) rfl (hb hby d2_29) (by decide) (by decide) k) ?_
          show Done p e below s _ _ _ (T7.setTop (mkF m 33 #[.val (.ref a1)] [(.int (1 : Int32))]))
          exact Done.narr X7 hx hlk hret (by simp) (hb hby d2_33) (by decide) (by decide) ⟨by rw [show RT a1 sx_REQUIRED sx_REQUIRES_NEW sx_NEVER sx_NESTED sx_MANDATORY sx_NOT_SUPPORTED sx_SUPPORTS = (1 : Int32) from by unfold RT; rw [if_neg c2, if_neg c4, if_neg c6, if_pos c8]] <;> rfl, N0, e7⟩
        · refine Done.step (fun t k => Jvm.RoadKit.acmp (g := (mkF m 25 #[.val (.ref a1)] [(.ref sx_MANDATORY), (.ref a1)])) X7 hx rfl rfl rfl (pc0 := 25) (pc' := 32) (same := false) rfl (hb hby d2_25) rfl (decide_eq_false fun q => c8 (Value.ref.inj q)) (by decide) (by decide) k) ?_
          show Done p e below s _ _ _ (T7.setTop (mkF m 32 #[.val (.ref a1)] []))
          refine Done.step (fun t k => XS.iconst X7.here hx rfl (hb hby d2_32) k) ?_
          show Done p e below s _ _ _ (T7.setTop (mkF m 33 #[.val (.ref a1)] [(.int (0 : Int32))]))
          exact Done.narr X7 hx hlk hret (by simp) (hb hby d2_33) (by decide) (by decide) ⟨by rw [show RT a1 sx_REQUIRED sx_REQUIRES_NEW sx_NEVER sx_NESTED sx_MANDATORY sx_NOT_SUPPORTED sx_SUPPORTS = (0 : Int32) from by unfold RT; rw [if_neg c2, if_neg c4, if_neg c6, if_neg c8]] <;> rfl, N0, e7⟩
theorem d3_0 : decode method_3_code 0 = .ok (.iload_n 0, 1) := by decide +kernel
theorem d3_1 : decode method_3_code 1 = .ok (.ifCond .ne 5, 3) := by decide +kernel
theorem d3_4 : decode method_3_code 4 = .ok (.iconst 1, 1) := by decide +kernel
theorem d3_5 : decode method_3_code 5 = .ok (.ireturn, 1) := by decide +kernel
theorem d3_6 : decode method_3_code 6 = .ok (.iload_n 0, 1) := by decide +kernel
theorem d3_7 : decode method_3_code 7 = .ok (.iconst 1, 1) := by decide +kernel
theorem d3_8 : decode method_3_code 8 = .ok (.if_icmp .ne 5, 3) := by decide +kernel
theorem d3_11 : decode method_3_code 11 = .ok (.iconst 0, 1) := by decide +kernel
theorem d3_12 : decode method_3_code 12 = .ok (.ireturn, 1) := by decide +kernel
theorem d3_13 : decode method_3_code 13 = .ok (.iload_n 0, 1) := by decide +kernel
theorem d3_14 : decode method_3_code 14 = .ok (.iconst 2, 1) := by decide +kernel
theorem d3_15 : decode method_3_code 15 = .ok (.if_icmp .ne 5, 3) := by decide +kernel
theorem d3_18 : decode method_3_code 18 = .ok (.iconst 1, 1) := by decide +kernel
theorem d3_19 : decode method_3_code 19 = .ok (.ireturn, 1) := by decide +kernel
theorem d3_20 : decode method_3_code 20 = .ok (.iload_n 0, 1) := by decide +kernel
theorem d3_21 : decode method_3_code 21 = .ok (.iconst 3, 1) := by decide +kernel
theorem d3_22 : decode method_3_code 22 = .ok (.if_icmp .ne 5, 3) := by decide +kernel
theorem d3_25 : decode method_3_code 25 = .ok (.iconst 1, 1) := by decide +kernel
theorem d3_26 : decode method_3_code 26 = .ok (.ireturn, 1) := by decide +kernel
theorem d3_27 : decode method_3_code 27 = .ok (.iload_n 0, 1) := by decide +kernel
theorem d3_28 : decode method_3_code 28 = .ok (.iconst 4, 1) := by decide +kernel
theorem d3_29 : decode method_3_code 29 = .ok (.if_icmp .ne 5, 3) := by decide +kernel
theorem d3_32 : decode method_3_code 32 = .ok (.iconst 0, 1) := by decide +kernel
theorem d3_33 : decode method_3_code 33 = .ok (.ireturn, 1) := by decide +kernel
theorem d3_34 : decode method_3_code 34 = .ok (.iload_n 0, 1) := by decide +kernel
theorem d3_35 : decode method_3_code 35 = .ok (.iconst 5, 1) := by decide +kernel
theorem d3_36 : decode method_3_code 36 = .ok (.if_icmp .ne 5, 3) := by decide +kernel
theorem d3_39 : decode method_3_code 39 = .ok (.iconst 0, 1) := by decide +kernel
theorem d3_40 : decode method_3_code 40 = .ok (.ireturn, 1) := by decide +kernel
theorem d3_41 : decode method_3_code 41 = .ok (.iconst 1, 1) := by decide +kernel
theorem d3_42 : decode method_3_code 42 = .ok (.ireturn, 1) := by decide +kernel
def F3 (p1 : Int32) : Int32 := (if p1 = (0 : Int32) then (1 : Int32)
  else (if p1 = (1 : Int32) then (0 : Int32)
    else (if p1 = (2 : Int32) then (1 : Int32)
      else (if p1 = (3 : Int32) then (1 : Int32)
        else (if p1 = (4 : Int32) then (0 : Int32)
          else (if p1 = (5 : Int32) then (0 : Int32)
            else (1 : Int32)))))))
theorem pn_3 : plainName "com/example/ruled_ledger/ruledledger/model/PropagationRunsInTransactionPinLaw" = true := by first | (simp [plainName, overriddenIn]; done) | decide +kernel
theorem ef_3 (m : MethodId) (p1 : Int32) : entryFrame m #[(.int p1)] 1 = mkF m 0 #[.val (.int p1)] [] := by first | (simp [entryFrame, mkF, argsToLocals, Value.category]; done) | rfl
def Qrm3 (Z : State) (p1 : Int32) (h0 : Heap) (n0 : Nat) : Option Value → Heap → List Loc → Prop := fun v h L => v = some (.int (F3 p1)) ∧ Fr n0 L ∧ h = h0
set_option maxRecDepth 65536 in
set_option maxHeartbeats 40000000 in
theorem rm3 (l : Launch) (Z : State) (a0 : Array Value) (hw : ∀ d ∈ tables_1, d.before a0 Z = true) (ws : List Jvm.Cond) (p1 : Int32) (h0 : Heap) (n0 : Nat) (Z0 : n0 ≤ h0.size) :
    MetFree l (⟨"com/example/ruled_ledger/ruledledger/model/PropagationRunsInTransactionPinLaw", "expected", "(I)Z"⟩ : MethodName) (head1 (Jvm.Cond.code (⟨"com/example/ruled_ledger/ruledledger/model/PropagationRunsInTransactionPinLaw", "expected", "(I)Z"⟩ : MethodName) method_3_code 1 (some .boolean) :: ws) ({ frames := 0, cells := 0, slots := 0, locals := 0 } : Room)) (fun a U => a = #[(.int p1)] ∧ Z.Warmed39 U.vm ∧ U.heap = h0) (fun _ _ _ _ _ => True) (fun _ U o U' => ∃ v L, o = .returned v ∧ Qrm3 Z p1 h0 n0 v U'.heap L ∧ FrameEnd U o U' L ({ frames := 0, cells := 0, slots := 0, locals := 0 } : Room).cells ({ frames := 0, cells := 0, slots := 0, locals := 0 } : Room).slots) := by
  refine MetFree.of_bodySF (plainFor_of_name pn_3) hisR ?_
  intro p e s m args below meth c s₁ Bd hml0 hP hK
  obtain ⟨rfl, hZ, hh⟩ := hP
  have hx := Bd.exec
  have hby := Bd.bytes
  have hml : c.maxLocals = 1 := hml0
  have hown : s.vm.findClass "com/example/ruled_ledger/ruledledger/model/PropagationRunsInTransactionPinLaw" = some m.cls := findClass_of_methodNamed Bd.named
  have hnm := (name_of_methodNamed Bd.named Bd.method).1
  have hlk : meth.locks = false := BodyLoose.notSynchronized Bd
  have hret := Bd.returns
  have X0 : Stand p l e ({ frames := 0, cells := 0, slots := 0, locals := 0 } : Room) s m #[(.int p1)] below meth c s₁ [] 0 0 := Stand.of_body Bd
  have e0 : s₁.heap = h0 := by rw [← hh, Bd.state]; rfl
  have N0 := Fr.nil n0
  show Done p e below s (Qrm3 Z p1 h0 n0) ({ frames := 0, cells := 0, slots := 0, locals := 0 } : Room).cells ({ frames := 0, cells := 0, slots := 0, locals := 0 } : Room).slots (s₁.setTop (entryFrame m #[(.int p1)] 1))
  refine Done.step (fun t k => castTop (ef_3 m p1) k) ?_
  show Done p e below s _ _ _ (s₁.setTop (mkF m 0 #[.val (.int p1)] []))
  refine Done.step (fun t k => XS.iloadN X0.here hx rfl (hb hby d3_0) rfl k) ?_
  show Done p e below s _ _ _ (s₁.setTop (mkF m 1 #[.val (.int p1)] [(.int p1)]))
  by_cases c1 : p1 = (0 : Int32)
  · refine Done.step (fun t k => XS.ifNo X0.here hx rfl (hb hby d3_1) rfl ((if0 _ _).trans (teq c1).2) k) ?_
    show Done p e below s _ _ _ (s₁.setTop (mkF m 4 #[.val (.int p1)] []))
    refine Done.step (fun t k => XS.iconst X0.here hx rfl (hb hby d3_4) k) ?_
    show Done p e below s _ _ _ (s₁.setTop (mkF m 5 #[.val (.int p1)] [(.int (1 : Int32))]))
    exact Done.narr X0 hx hlk hret (by simp) (hb hby d3_5) (by decide) (by decide) ⟨by rw [show F3 p1 = (1 : Int32) from by unfold F3; rw [if_pos c1]] <;> rfl, N0, e0⟩
  · refine Done.step (fun t k => XS.ifYes X0.here hx rfl (pc0 := 1) (pc' := 6) rfl (hb hby d3_1) rfl ((if0 _ _).trans (feq c1).2) (by decide) (by decide) k) ?_
    show Done p e below s _ _ _ (s₁.setTop (mkF m 6 #[.val (.int p1)] []))
    refine Done.step (fun t k => XS.iloadN X0.here hx rfl (hb hby d3_6) rfl k) ?_
    show Done p e below s _ _ _ (s₁.setTop (mkF m 7 #[.val (.int p1)] [(.int p1)]))
    refine Done.step (fun t k => XS.iconst X0.here hx rfl (hb hby d3_7) k) ?_
    show Done p e below s _ _ _ (s₁.setTop (mkF m 8 #[.val (.int p1)] [(.int (1 : Int32)), (.int p1)]))
    by_cases c2 : p1 = (1 : Int32)
    · refine Done.step (fun t k => XS.icmpNo X0.here hx rfl (hb hby d3_8) rfl (teq c2).2 k) ?_
      show Done p e below s _ _ _ (s₁.setTop (mkF m 11 #[.val (.int p1)] []))
      refine Done.step (fun t k => XS.iconst X0.here hx rfl (hb hby d3_11) k) ?_
      show Done p e below s _ _ _ (s₁.setTop (mkF m 12 #[.val (.int p1)] [(.int (0 : Int32))]))
      exact Done.narr X0 hx hlk hret (by simp) (hb hby d3_12) (by decide) (by decide) ⟨by rw [show F3 p1 = (0 : Int32) from by unfold F3; rw [if_neg c1, if_pos c2]] <;> rfl, N0, e0⟩
    · refine Done.step (fun t k => XS.icmpYes X0.here hx rfl (pc0 := 8) (pc' := 13) rfl (hb hby d3_8) rfl (feq c2).2 (by decide) (by decide) k) ?_
      show Done p e below s _ _ _ (s₁.setTop (mkF m 13 #[.val (.int p1)] []))
      refine Done.step (fun t k => XS.iloadN X0.here hx rfl (hb hby d3_13) rfl k) ?_
      show Done p e below s _ _ _ (s₁.setTop (mkF m 14 #[.val (.int p1)] [(.int p1)]))
      refine Done.step (fun t k => XS.iconst X0.here hx rfl (hb hby d3_14) k) ?_
      show Done p e below s _ _ _ (s₁.setTop (mkF m 15 #[.val (.int p1)] [(.int (2 : Int32)), (.int p1)]))
      by_cases c3 : p1 = (2 : Int32)
      · refine Done.step (fun t k => XS.icmpNo X0.here hx rfl (hb hby d3_15) rfl (teq c3).2 k) ?_
        show Done p e below s _ _ _ (s₁.setTop (mkF m 18 #[.val (.int p1)] []))
        refine Done.step (fun t k => XS.iconst X0.here hx rfl (hb hby d3_18) k) ?_
        show Done p e below s _ _ _ (s₁.setTop (mkF m 19 #[.val (.int p1)] [(.int (1 : Int32))]))
        exact Done.narr X0 hx hlk hret (by simp) (hb hby d3_19) (by decide) (by decide) ⟨by rw [show F3 p1 = (1 : Int32) from by unfold F3; rw [if_neg c1, if_neg c2, if_pos c3]] <;> rfl, N0, e0⟩
      · refine Done.step (fun t k => XS.icmpYes X0.here hx rfl (pc0 := 15) (pc' := 20) rfl (hb hby d3_15) rfl (feq c3).2 (by decide) (by decide) k) ?_
        show Done p e below s _ _ _ (s₁.setTop (mkF m 20 #[.val (.int p1)] []))
        refine Done.step (fun t k => XS.iloadN X0.here hx rfl (hb hby d3_20) rfl k) ?_
        show Done p e below s _ _ _ (s₁.setTop (mkF m 21 #[.val (.int p1)] [(.int p1)]))
        refine Done.step (fun t k => XS.iconst X0.here hx rfl (hb hby d3_21) k) ?_
        show Done p e below s _ _ _ (s₁.setTop (mkF m 22 #[.val (.int p1)] [(.int (3 : Int32)), (.int p1)]))
        by_cases c4 : p1 = (3 : Int32)
        · refine Done.step (fun t k => XS.icmpNo X0.here hx rfl (hb hby d3_22) rfl (teq c4).2 k) ?_
          show Done p e below s _ _ _ (s₁.setTop (mkF m 25 #[.val (.int p1)] []))
          refine Done.step (fun t k => XS.iconst X0.here hx rfl (hb hby d3_25) k) ?_
          show Done p e below s _ _ _ (s₁.setTop (mkF m 26 #[.val (.int p1)] [(.int (1 : Int32))]))
          exact Done.narr X0 hx hlk hret (by simp) (hb hby d3_26) (by decide) (by decide) ⟨by rw [show F3 p1 = (1 : Int32) from by unfold F3; rw [if_neg c1, if_neg c2, if_neg c3, if_pos c4]] <;> rfl, N0, e0⟩
        · refine Done.step (fun t k => XS.icmpYes X0.here hx rfl (pc0 := 22) (pc' := 27) rfl (hb hby d3_22) rfl (feq c4).2 (by decide) (by decide) k) ?_
          show Done p e below s _ _ _ (s₁.setTop (mkF m 27 #[.val (.int p1)] []))
          refine Done.step (fun t k => XS.iloadN X0.here hx rfl (hb hby d3_27) rfl k) ?_
          show Done p e below s _ _ _ (s₁.setTop (mkF m 28 #[.val (.int p1)] [(.int p1)]))
          refine Done.step (fun t k => XS.iconst X0.here hx rfl (hb hby d3_28) k) ?_
          show Done p e below s _ _ _ (s₁.setTop (mkF m 29 #[.val (.int p1)] [(.int (4 : Int32)), (.int p1)]))
          by_cases c5 : p1 = (4 : Int32)
          · refine Done.step (fun t k => XS.icmpNo X0.here hx rfl (hb hby d3_29) rfl (teq c5).2 k) ?_
            show Done p e below s _ _ _ (s₁.setTop (mkF m 32 #[.val (.int p1)] []))
            refine Done.step (fun t k => XS.iconst X0.here hx rfl (hb hby d3_32) k) ?_
            show Done p e below s _ _ _ (s₁.setTop (mkF m 33 #[.val (.int p1)] [(.int (0 : Int32))]))
            exact Done.narr X0 hx hlk hret (by simp) (hb hby d3_33) (by decide) (by decide) ⟨by rw [show F3 p1 = (0 : Int32) from by unfold F3; rw [if_neg c1, if_neg c2, if_neg c3, if_neg c4, if_pos c5]] <;> rfl, N0, e0⟩
          · refine Done.step (fun t k => XS.icmpYes X0.here hx rfl (pc0 := 29) (pc' := 34) rfl (hb hby d3_29) rfl (feq c5).2 (by decide) (by decide) k) ?_
            show Done p e below s _ _ _ (s₁.setTop (mkF m 34 #[.val (.int p1)] []))
            refine Done.step (fun t k => XS.iloadN X0.here hx rfl (hb hby d3_34) rfl k) ?_
            show Done p e below s _ _ _ (s₁.setTop (mkF m 35 #[.val (.int p1)] [(.int p1)]))
            refine Done.step (fun t k => XS.iconst X0.here hx rfl (hb hby d3_35) k) ?_
            show Done p e below s _ _ _ (s₁.setTop (mkF m 36 #[.val (.int p1)] [(.int (5 : Int32)), (.int p1)]))
            by_cases c6 : p1 = (5 : Int32)
            · refine Done.step (fun t k => XS.icmpNo X0.here hx rfl (hb hby d3_36) rfl (teq c6).2 k) ?_
              show Done p e below s _ _ _ (s₁.setTop (mkF m 39 #[.val (.int p1)] []))
              refine Done.step (fun t k => XS.iconst X0.here hx rfl (hb hby d3_39) k) ?_
              show Done p e below s _ _ _ (s₁.setTop (mkF m 40 #[.val (.int p1)] [(.int (0 : Int32))]))
              exact Done.narr X0 hx hlk hret (by simp) (hb hby d3_40) (by decide) (by decide) ⟨by rw [show F3 p1 = (0 : Int32) from by unfold F3; rw [if_neg c1, if_neg c2, if_neg c3, if_neg c4, if_neg c5, if_pos c6]] <;> rfl, N0, e0⟩
            · refine Done.step (fun t k => XS.icmpYes X0.here hx rfl (pc0 := 36) (pc' := 41) rfl (hb hby d3_36) rfl (feq c6).2 (by decide) (by decide) k) ?_
              show Done p e below s _ _ _ (s₁.setTop (mkF m 41 #[.val (.int p1)] []))
              refine Done.step (fun t k => XS.iconst X0.here hx rfl (hb hby d3_41) k) ?_
              show Done p e below s _ _ _ (s₁.setTop (mkF m 42 #[.val (.int p1)] [(.int (1 : Int32))]))
              exact Done.narr X0 hx hlk hret (by simp) (hb hby d3_42) (by decide) (by decide) ⟨by rw [show F3 p1 = (1 : Int32) from by unfold F3; rw [if_neg c1, if_neg c2, if_neg c3, if_neg c4, if_neg c5, if_neg c6]] <;> rfl, N0, e0⟩
theorem own_eq0 (p1 : Int32) (sx_REQUIRED : Addr) (sx_REQUIRES_NEW : Addr) (sx_NEVER : Addr) (sx_NESTED : Addr) (sx_MANDATORY : Addr) (sx_NOT_SUPPORTED : Addr) (sx_SUPPORTS : Addr) (nx01 : sx_REQUIRED ≠ sx_SUPPORTS) (nx02 : sx_REQUIRED ≠ sx_MANDATORY) (nx03 : sx_REQUIRED ≠ sx_REQUIRES_NEW) (nx04 : sx_REQUIRED ≠ sx_NOT_SUPPORTED) (nx05 : sx_REQUIRED ≠ sx_NEVER) (nx06 : sx_REQUIRED ≠ sx_NESTED) (nx12 : sx_SUPPORTS ≠ sx_MANDATORY) (nx13 : sx_SUPPORTS ≠ sx_REQUIRES_NEW) (nx14 : sx_SUPPORTS ≠ sx_NOT_SUPPORTED) (nx15 : sx_SUPPORTS ≠ sx_NEVER) (nx16 : sx_SUPPORTS ≠ sx_NESTED) (nx23 : sx_MANDATORY ≠ sx_REQUIRES_NEW) (nx24 : sx_MANDATORY ≠ sx_NOT_SUPPORTED) (nx25 : sx_MANDATORY ≠ sx_NEVER) (nx26 : sx_MANDATORY ≠ sx_NESTED) (nx34 : sx_REQUIRES_NEW ≠ sx_NOT_SUPPORTED) (nx35 : sx_REQUIRES_NEW ≠ sx_NEVER) (nx36 : sx_REQUIRES_NEW ≠ sx_NESTED) (nx45 : sx_NOT_SUPPORTED ≠ sx_NEVER) (nx46 : sx_NOT_SUPPORTED ≠ sx_NESTED) (nx56 : sx_NEVER ≠ sx_NESTED) (k0 : ((p1 &&& (2147483647 : Int32)) % (7 : Int32)) = (0 : Int32)) : (RT sx_REQUIRED sx_REQUIRED sx_REQUIRES_NEW sx_NEVER sx_NESTED sx_MANDATORY sx_NOT_SUPPORTED sx_SUPPORTS) = (F3 ((p1 &&& (2147483647 : Int32)) % (7 : Int32))) := by
  have e1 : (F3 ((p1 &&& (2147483647 : Int32)) % (7 : Int32))) = (1 : Int32) := by unfold F3; rw [if_pos k0]
  rw [e1]
  unfold RT
  simp [nx01, nx02, nx03, nx04, nx05, nx06]
theorem own_eq1 (p1 : Int32) (sx_REQUIRED : Addr) (sx_REQUIRES_NEW : Addr) (sx_NEVER : Addr) (sx_NESTED : Addr) (sx_MANDATORY : Addr) (sx_NOT_SUPPORTED : Addr) (sx_SUPPORTS : Addr) (nx01 : sx_REQUIRED ≠ sx_SUPPORTS) (nx02 : sx_REQUIRED ≠ sx_MANDATORY) (nx03 : sx_REQUIRED ≠ sx_REQUIRES_NEW) (nx04 : sx_REQUIRED ≠ sx_NOT_SUPPORTED) (nx05 : sx_REQUIRED ≠ sx_NEVER) (nx06 : sx_REQUIRED ≠ sx_NESTED) (nx12 : sx_SUPPORTS ≠ sx_MANDATORY) (nx13 : sx_SUPPORTS ≠ sx_REQUIRES_NEW) (nx14 : sx_SUPPORTS ≠ sx_NOT_SUPPORTED) (nx15 : sx_SUPPORTS ≠ sx_NEVER) (nx16 : sx_SUPPORTS ≠ sx_NESTED) (nx23 : sx_MANDATORY ≠ sx_REQUIRES_NEW) (nx24 : sx_MANDATORY ≠ sx_NOT_SUPPORTED) (nx25 : sx_MANDATORY ≠ sx_NEVER) (nx26 : sx_MANDATORY ≠ sx_NESTED) (nx34 : sx_REQUIRES_NEW ≠ sx_NOT_SUPPORTED) (nx35 : sx_REQUIRES_NEW ≠ sx_NEVER) (nx36 : sx_REQUIRES_NEW ≠ sx_NESTED) (nx45 : sx_NOT_SUPPORTED ≠ sx_NEVER) (nx46 : sx_NOT_SUPPORTED ≠ sx_NESTED) (nx56 : sx_NEVER ≠ sx_NESTED) (k0 : ¬ ((p1 &&& (2147483647 : Int32)) % (7 : Int32)) = (0 : Int32)) (k1 : ((p1 &&& (2147483647 : Int32)) % (7 : Int32)) = (1 : Int32)) : (RT sx_SUPPORTS sx_REQUIRED sx_REQUIRES_NEW sx_NEVER sx_NESTED sx_MANDATORY sx_NOT_SUPPORTED sx_SUPPORTS) = (F3 ((p1 &&& (2147483647 : Int32)) % (7 : Int32))) := by
  have e1 : (F3 ((p1 &&& (2147483647 : Int32)) % (7 : Int32))) = (0 : Int32) := by unfold F3; rw [if_neg k0, if_pos k1]
  rw [e1]
  unfold RT
  simp [nx01.symm, nx12, nx13, nx14, nx15, nx16]
theorem own_eq2 (p1 : Int32) (sx_REQUIRED : Addr) (sx_REQUIRES_NEW : Addr) (sx_NEVER : Addr) (sx_NESTED : Addr) (sx_MANDATORY : Addr) (sx_NOT_SUPPORTED : Addr) (sx_SUPPORTS : Addr) (nx01 : sx_REQUIRED ≠ sx_SUPPORTS) (nx02 : sx_REQUIRED ≠ sx_MANDATORY) (nx03 : sx_REQUIRED ≠ sx_REQUIRES_NEW) (nx04 : sx_REQUIRED ≠ sx_NOT_SUPPORTED) (nx05 : sx_REQUIRED ≠ sx_NEVER) (nx06 : sx_REQUIRED ≠ sx_NESTED) (nx12 : sx_SUPPORTS ≠ sx_MANDATORY) (nx13 : sx_SUPPORTS ≠ sx_REQUIRES_NEW) (nx14 : sx_SUPPORTS ≠ sx_NOT_SUPPORTED) (nx15 : sx_SUPPORTS ≠ sx_NEVER) (nx16 : sx_SUPPORTS ≠ sx_NESTED) (nx23 : sx_MANDATORY ≠ sx_REQUIRES_NEW) (nx24 : sx_MANDATORY ≠ sx_NOT_SUPPORTED) (nx25 : sx_MANDATORY ≠ sx_NEVER) (nx26 : sx_MANDATORY ≠ sx_NESTED) (nx34 : sx_REQUIRES_NEW ≠ sx_NOT_SUPPORTED) (nx35 : sx_REQUIRES_NEW ≠ sx_NEVER) (nx36 : sx_REQUIRES_NEW ≠ sx_NESTED) (nx45 : sx_NOT_SUPPORTED ≠ sx_NEVER) (nx46 : sx_NOT_SUPPORTED ≠ sx_NESTED) (nx56 : sx_NEVER ≠ sx_NESTED) (k0 : ¬ ((p1 &&& (2147483647 : Int32)) % (7 : Int32)) = (0 : Int32)) (k1 : ¬ ((p1 &&& (2147483647 : Int32)) % (7 : Int32)) = (1 : Int32)) (k2 : ((p1 &&& (2147483647 : Int32)) % (7 : Int32)) = (2 : Int32)) : (RT sx_MANDATORY sx_REQUIRED sx_REQUIRES_NEW sx_NEVER sx_NESTED sx_MANDATORY sx_NOT_SUPPORTED sx_SUPPORTS) = (F3 ((p1 &&& (2147483647 : Int32)) % (7 : Int32))) := by
  have e1 : (F3 ((p1 &&& (2147483647 : Int32)) % (7 : Int32))) = (1 : Int32) := by unfold F3; rw [if_neg k0, if_neg k1, if_pos k2]
  rw [e1]
  unfold RT
  simp [nx02.symm, nx12.symm, nx23, nx24, nx25, nx26]
theorem own_eq3 (p1 : Int32) (sx_REQUIRED : Addr) (sx_REQUIRES_NEW : Addr) (sx_NEVER : Addr) (sx_NESTED : Addr) (sx_MANDATORY : Addr) (sx_NOT_SUPPORTED : Addr) (sx_SUPPORTS : Addr) (nx01 : sx_REQUIRED ≠ sx_SUPPORTS) (nx02 : sx_REQUIRED ≠ sx_MANDATORY) (nx03 : sx_REQUIRED ≠ sx_REQUIRES_NEW) (nx04 : sx_REQUIRED ≠ sx_NOT_SUPPORTED) (nx05 : sx_REQUIRED ≠ sx_NEVER) (nx06 : sx_REQUIRED ≠ sx_NESTED) (nx12 : sx_SUPPORTS ≠ sx_MANDATORY) (nx13 : sx_SUPPORTS ≠ sx_REQUIRES_NEW) (nx14 : sx_SUPPORTS ≠ sx_NOT_SUPPORTED) (nx15 : sx_SUPPORTS ≠ sx_NEVER) (nx16 : sx_SUPPORTS ≠ sx_NESTED) (nx23 : sx_MANDATORY ≠ sx_REQUIRES_NEW) (nx24 : sx_MANDATORY ≠ sx_NOT_SUPPORTED) (nx25 : sx_MANDATORY ≠ sx_NEVER) (nx26 : sx_MANDATORY ≠ sx_NESTED) (nx34 : sx_REQUIRES_NEW ≠ sx_NOT_SUPPORTED) (nx35 : sx_REQUIRES_NEW ≠ sx_NEVER) (nx36 : sx_REQUIRES_NEW ≠ sx_NESTED) (nx45 : sx_NOT_SUPPORTED ≠ sx_NEVER) (nx46 : sx_NOT_SUPPORTED ≠ sx_NESTED) (nx56 : sx_NEVER ≠ sx_NESTED) (k0 : ¬ ((p1 &&& (2147483647 : Int32)) % (7 : Int32)) = (0 : Int32)) (k1 : ¬ ((p1 &&& (2147483647 : Int32)) % (7 : Int32)) = (1 : Int32)) (k2 : ¬ ((p1 &&& (2147483647 : Int32)) % (7 : Int32)) = (2 : Int32)) (k3 : ((p1 &&& (2147483647 : Int32)) % (7 : Int32)) = (3 : Int32)) : (RT sx_REQUIRES_NEW sx_REQUIRED sx_REQUIRES_NEW sx_NEVER sx_NESTED sx_MANDATORY sx_NOT_SUPPORTED sx_SUPPORTS) = (F3 ((p1 &&& (2147483647 : Int32)) % (7 : Int32))) := by
  have e1 : (F3 ((p1 &&& (2147483647 : Int32)) % (7 : Int32))) = (1 : Int32) := by unfold F3; rw [if_neg k0, if_neg k1, if_neg k2, if_pos k3]
  rw [e1]
  unfold RT
  simp [nx03.symm, nx13.symm, nx23.symm, nx34, nx35, nx36]
theorem own_eq4 (p1 : Int32) (sx_REQUIRED : Addr) (sx_REQUIRES_NEW : Addr) (sx_NEVER : Addr) (sx_NESTED : Addr) (sx_MANDATORY : Addr) (sx_NOT_SUPPORTED : Addr) (sx_SUPPORTS : Addr) (nx01 : sx_REQUIRED ≠ sx_SUPPORTS) (nx02 : sx_REQUIRED ≠ sx_MANDATORY) (nx03 : sx_REQUIRED ≠ sx_REQUIRES_NEW) (nx04 : sx_REQUIRED ≠ sx_NOT_SUPPORTED) (nx05 : sx_REQUIRED ≠ sx_NEVER) (nx06 : sx_REQUIRED ≠ sx_NESTED) (nx12 : sx_SUPPORTS ≠ sx_MANDATORY) (nx13 : sx_SUPPORTS ≠ sx_REQUIRES_NEW) (nx14 : sx_SUPPORTS ≠ sx_NOT_SUPPORTED) (nx15 : sx_SUPPORTS ≠ sx_NEVER) (nx16 : sx_SUPPORTS ≠ sx_NESTED) (nx23 : sx_MANDATORY ≠ sx_REQUIRES_NEW) (nx24 : sx_MANDATORY ≠ sx_NOT_SUPPORTED) (nx25 : sx_MANDATORY ≠ sx_NEVER) (nx26 : sx_MANDATORY ≠ sx_NESTED) (nx34 : sx_REQUIRES_NEW ≠ sx_NOT_SUPPORTED) (nx35 : sx_REQUIRES_NEW ≠ sx_NEVER) (nx36 : sx_REQUIRES_NEW ≠ sx_NESTED) (nx45 : sx_NOT_SUPPORTED ≠ sx_NEVER) (nx46 : sx_NOT_SUPPORTED ≠ sx_NESTED) (nx56 : sx_NEVER ≠ sx_NESTED) (k0 : ¬ ((p1 &&& (2147483647 : Int32)) % (7 : Int32)) = (0 : Int32)) (k1 : ¬ ((p1 &&& (2147483647 : Int32)) % (7 : Int32)) = (1 : Int32)) (k2 : ¬ ((p1 &&& (2147483647 : Int32)) % (7 : Int32)) = (2 : Int32)) (k3 : ¬ ((p1 &&& (2147483647 : Int32)) % (7 : Int32)) = (3 : Int32)) (k4 : ((p1 &&& (2147483647 : Int32)) % (7 : Int32)) = (4 : Int32)) : (RT sx_NOT_SUPPORTED sx_REQUIRED sx_REQUIRES_NEW sx_NEVER sx_NESTED sx_MANDATORY sx_NOT_SUPPORTED sx_SUPPORTS) = (F3 ((p1 &&& (2147483647 : Int32)) % (7 : Int32))) := by
  have e1 : (F3 ((p1 &&& (2147483647 : Int32)) % (7 : Int32))) = (0 : Int32) := by unfold F3; rw [if_neg k0, if_neg k1, if_neg k2, if_neg k3, if_pos k4]
  rw [e1]
  unfold RT
  simp [nx04.symm, nx14.symm, nx24.symm, nx34.symm, nx45, nx46]
theorem own_eq5 (p1 : Int32) (sx_REQUIRED : Addr) (sx_REQUIRES_NEW : Addr) (sx_NEVER : Addr) (sx_NESTED : Addr) (sx_MANDATORY : Addr) (sx_NOT_SUPPORTED : Addr) (sx_SUPPORTS : Addr) (nx01 : sx_REQUIRED ≠ sx_SUPPORTS) (nx02 : sx_REQUIRED ≠ sx_MANDATORY) (nx03 : sx_REQUIRED ≠ sx_REQUIRES_NEW) (nx04 : sx_REQUIRED ≠ sx_NOT_SUPPORTED) (nx05 : sx_REQUIRED ≠ sx_NEVER) (nx06 : sx_REQUIRED ≠ sx_NESTED) (nx12 : sx_SUPPORTS ≠ sx_MANDATORY) (nx13 : sx_SUPPORTS ≠ sx_REQUIRES_NEW) (nx14 : sx_SUPPORTS ≠ sx_NOT_SUPPORTED) (nx15 : sx_SUPPORTS ≠ sx_NEVER) (nx16 : sx_SUPPORTS ≠ sx_NESTED) (nx23 : sx_MANDATORY ≠ sx_REQUIRES_NEW) (nx24 : sx_MANDATORY ≠ sx_NOT_SUPPORTED) (nx25 : sx_MANDATORY ≠ sx_NEVER) (nx26 : sx_MANDATORY ≠ sx_NESTED) (nx34 : sx_REQUIRES_NEW ≠ sx_NOT_SUPPORTED) (nx35 : sx_REQUIRES_NEW ≠ sx_NEVER) (nx36 : sx_REQUIRES_NEW ≠ sx_NESTED) (nx45 : sx_NOT_SUPPORTED ≠ sx_NEVER) (nx46 : sx_NOT_SUPPORTED ≠ sx_NESTED) (nx56 : sx_NEVER ≠ sx_NESTED) (k0 : ¬ ((p1 &&& (2147483647 : Int32)) % (7 : Int32)) = (0 : Int32)) (k1 : ¬ ((p1 &&& (2147483647 : Int32)) % (7 : Int32)) = (1 : Int32)) (k2 : ¬ ((p1 &&& (2147483647 : Int32)) % (7 : Int32)) = (2 : Int32)) (k3 : ¬ ((p1 &&& (2147483647 : Int32)) % (7 : Int32)) = (3 : Int32)) (k4 : ¬ ((p1 &&& (2147483647 : Int32)) % (7 : Int32)) = (4 : Int32)) (k5 : ((p1 &&& (2147483647 : Int32)) % (7 : Int32)) = (5 : Int32)) : (RT sx_NEVER sx_REQUIRED sx_REQUIRES_NEW sx_NEVER sx_NESTED sx_MANDATORY sx_NOT_SUPPORTED sx_SUPPORTS) = (F3 ((p1 &&& (2147483647 : Int32)) % (7 : Int32))) := by
  have e1 : (F3 ((p1 &&& (2147483647 : Int32)) % (7 : Int32))) = (0 : Int32) := by unfold F3; rw [if_neg k0, if_neg k1, if_neg k2, if_neg k3, if_neg k4, if_pos k5]
  rw [e1]
  unfold RT
  simp [nx05.symm, nx15.symm, nx25.symm, nx35.symm, nx45.symm, nx56]
theorem own_eq6 (p1 : Int32) (sx_REQUIRED : Addr) (sx_REQUIRES_NEW : Addr) (sx_NEVER : Addr) (sx_NESTED : Addr) (sx_MANDATORY : Addr) (sx_NOT_SUPPORTED : Addr) (sx_SUPPORTS : Addr) (nx01 : sx_REQUIRED ≠ sx_SUPPORTS) (nx02 : sx_REQUIRED ≠ sx_MANDATORY) (nx03 : sx_REQUIRED ≠ sx_REQUIRES_NEW) (nx04 : sx_REQUIRED ≠ sx_NOT_SUPPORTED) (nx05 : sx_REQUIRED ≠ sx_NEVER) (nx06 : sx_REQUIRED ≠ sx_NESTED) (nx12 : sx_SUPPORTS ≠ sx_MANDATORY) (nx13 : sx_SUPPORTS ≠ sx_REQUIRES_NEW) (nx14 : sx_SUPPORTS ≠ sx_NOT_SUPPORTED) (nx15 : sx_SUPPORTS ≠ sx_NEVER) (nx16 : sx_SUPPORTS ≠ sx_NESTED) (nx23 : sx_MANDATORY ≠ sx_REQUIRES_NEW) (nx24 : sx_MANDATORY ≠ sx_NOT_SUPPORTED) (nx25 : sx_MANDATORY ≠ sx_NEVER) (nx26 : sx_MANDATORY ≠ sx_NESTED) (nx34 : sx_REQUIRES_NEW ≠ sx_NOT_SUPPORTED) (nx35 : sx_REQUIRES_NEW ≠ sx_NEVER) (nx36 : sx_REQUIRES_NEW ≠ sx_NESTED) (nx45 : sx_NOT_SUPPORTED ≠ sx_NEVER) (nx46 : sx_NOT_SUPPORTED ≠ sx_NESTED) (nx56 : sx_NEVER ≠ sx_NESTED) (k0 : ¬ ((p1 &&& (2147483647 : Int32)) % (7 : Int32)) = (0 : Int32)) (k1 : ¬ ((p1 &&& (2147483647 : Int32)) % (7 : Int32)) = (1 : Int32)) (k2 : ¬ ((p1 &&& (2147483647 : Int32)) % (7 : Int32)) = (2 : Int32)) (k3 : ¬ ((p1 &&& (2147483647 : Int32)) % (7 : Int32)) = (3 : Int32)) (k4 : ¬ ((p1 &&& (2147483647 : Int32)) % (7 : Int32)) = (4 : Int32)) (k5 : ¬ ((p1 &&& (2147483647 : Int32)) % (7 : Int32)) = (5 : Int32)) : (RT sx_NESTED sx_REQUIRED sx_REQUIRES_NEW sx_NEVER sx_NESTED sx_MANDATORY sx_NOT_SUPPORTED sx_SUPPORTS) = (F3 ((p1 &&& (2147483647 : Int32)) % (7 : Int32))) := by
  have e1 : (F3 ((p1 &&& (2147483647 : Int32)) % (7 : Int32))) = (1 : Int32) := by unfold F3; rw [if_neg k0, if_neg k1, if_neg k2, if_neg k3, if_neg k4, if_neg k5]
  rw [e1]
  unfold RT
  simp [nx06.symm, nx16.symm, nx26.symm, nx36.symm, nx46.symm, nx56.symm]
theorem pn_0 : plainName "com/example/ruled_ledger/ruledledger/model/PropagationRunsInTransactionPinLaw" = true := by first | (simp [plainName, overriddenIn]; done) | decide +kernel
theorem ef_0 (m : MethodId) (p1 : Int32) : entryFrame m #[(.int p1)] maxLocals = mkF m 0 #[.val (.int p1), .unset, .unset] [] := by first | (simp [entryFrame, mkF, argsToLocals, Value.category, maxLocals]; done) | rfl
def Qrm0 (Z : State) (p1 : Int32) (sx_REQUIRED : Addr) (sx_REQUIRES_NEW : Addr) (sx_NEVER : Addr) (sx_NESTED : Addr) (sx_MANDATORY : Addr) (sx_NOT_SUPPORTED : Addr) (sx_SUPPORTS : Addr) (h0 : Heap) (n0 : Nat) : Option Value → Heap → List Loc → Prop := fun v h L => v = some (.int 1) ∧ Fr n0 L
set_option maxRecDepth 65536 in
set_option maxHeartbeats 40000000 in
theorem rm0 (l : Launch) (Z : State) (a0 : Array Value) (hw : ∀ d ∈ tables_1, d.before a0 Z = true) (ws : List Jvm.Cond) (p1 : Int32) (sx_REQUIRED : Addr) (sx_REQUIRES_NEW : Addr) (sx_NEVER : Addr) (sx_NESTED : Addr) (sx_MANDATORY : Addr) (sx_NOT_SUPPORTED : Addr) (sx_SUPPORTS : Addr) (h0 : Heap) (n0 : Nat) (Z0 : n0 ≤ h0.size) (S_sx_REQUIRED : Sta Z h0 "com/example/ruled_ledger/ruledledger/model/Propagation" "REQUIRED" "Lcom/example/ruled_ledger/ruledledger/model/Propagation;" (.ref sx_REQUIRED)) (E_sx_REQUIRED : Exa Z h0 sx_REQUIRED "com/example/ruled_ledger/ruledledger/model/Propagation") (S_sx_REQUIRES_NEW : Sta Z h0 "com/example/ruled_ledger/ruledledger/model/Propagation" "REQUIRES_NEW" "Lcom/example/ruled_ledger/ruledledger/model/Propagation;" (.ref sx_REQUIRES_NEW)) (E_sx_REQUIRES_NEW : Exa Z h0 sx_REQUIRES_NEW "com/example/ruled_ledger/ruledledger/model/Propagation") (S_sx_NEVER : Sta Z h0 "com/example/ruled_ledger/ruledledger/model/Propagation" "NEVER" "Lcom/example/ruled_ledger/ruledledger/model/Propagation;" (.ref sx_NEVER)) (E_sx_NEVER : Exa Z h0 sx_NEVER "com/example/ruled_ledger/ruledledger/model/Propagation") (S_sx_NESTED : Sta Z h0 "com/example/ruled_ledger/ruledledger/model/Propagation" "NESTED" "Lcom/example/ruled_ledger/ruledledger/model/Propagation;" (.ref sx_NESTED)) (E_sx_NESTED : Exa Z h0 sx_NESTED "com/example/ruled_ledger/ruledledger/model/Propagation") (S_sx_MANDATORY : Sta Z h0 "com/example/ruled_ledger/ruledledger/model/Propagation" "MANDATORY" "Lcom/example/ruled_ledger/ruledledger/model/Propagation;" (.ref sx_MANDATORY)) (E_sx_MANDATORY : Exa Z h0 sx_MANDATORY "com/example/ruled_ledger/ruledledger/model/Propagation") (S_sx_NOT_SUPPORTED : Sta Z h0 "com/example/ruled_ledger/ruledledger/model/Propagation" "NOT_SUPPORTED" "Lcom/example/ruled_ledger/ruledledger/model/Propagation;" (.ref sx_NOT_SUPPORTED)) (E_sx_NOT_SUPPORTED : Exa Z h0 sx_NOT_SUPPORTED "com/example/ruled_ledger/ruledledger/model/Propagation") (S_sx_SUPPORTS : Sta Z h0 "com/example/ruled_ledger/ruledledger/model/Propagation" "SUPPORTS" "Lcom/example/ruled_ledger/ruledledger/model/Propagation;" (.ref sx_SUPPORTS)) (E_sx_SUPPORTS : Exa Z h0 sx_SUPPORTS "com/example/ruled_ledger/ruledledger/model/Propagation") (F_sx_REQUIRES_NEW_ordinal : Fld Z h0 sx_REQUIRES_NEW "java/lang/Enum" "ordinal" "I" (.int (3 : Int32))) (F_sx_REQUIRED_ordinal : Fld Z h0 sx_REQUIRED "java/lang/Enum" "ordinal" "I" (.int (0 : Int32))) (F_sx_NEVER_ordinal : Fld Z h0 sx_NEVER "java/lang/Enum" "ordinal" "I" (.int (5 : Int32))) (F_sx_NESTED_ordinal : Fld Z h0 sx_NESTED "java/lang/Enum" "ordinal" "I" (.int (6 : Int32))) (F_sx_MANDATORY_ordinal : Fld Z h0 sx_MANDATORY "java/lang/Enum" "ordinal" "I" (.int (2 : Int32))) (F_sx_NOT_SUPPORTED_ordinal : Fld Z h0 sx_NOT_SUPPORTED "java/lang/Enum" "ordinal" "I" (.int (4 : Int32))) (F_sx_SUPPORTS_ordinal : Fld Z h0 sx_SUPPORTS "java/lang/Enum" "ordinal" "I" (.int (1 : Int32))) :
    MetFree l x (head1 (Jvm.Cond.code x code maxLocals ret :: ws) room_1) (fun a U => a = #[(.int p1)] ∧ Z.Warmed39 U.vm ∧ U.heap = h0) (fun _ _ _ _ _ => True) (fun _ U o U' => ∃ v L, o = .returned v ∧ Qrm0 Z p1 sx_REQUIRED sx_REQUIRES_NEW sx_NEVER sx_NESTED sx_MANDATORY sx_NOT_SUPPORTED sx_SUPPORTS h0 n0 v U'.heap L ∧ FrameEnd U o U' L room_1.cells room_1.slots) := by
  refine MetFree.of_bodySF (plainFor_of_name pn_0) hisR ?_
  intro p e s m args below meth c s₁ Bd hml0 hP hK
  obtain ⟨rfl, hZ, hh⟩ := hP
  have hx := Bd.exec
  have hby := Bd.bytes
  have hml : c.maxLocals = 3 := hml0
  have hown : s.vm.findClass "com/example/ruled_ledger/ruledledger/model/PropagationRunsInTransactionPinLaw" = some m.cls := findClass_of_methodNamed Bd.named
  have hnm := (name_of_methodNamed Bd.named Bd.method).1
  have hlk : meth.locks = false := BodyLoose.notSynchronized Bd
  have hret := Bd.returns
  have X0 : Stand p l e room_1 s m #[(.int p1)] below meth c s₁ [] 0 0 := Stand.of_body Bd
  have e0 : s₁.heap = h0 := by rw [← hh, Bd.state]; rfl
  have N0 := Fr.nil n0
  show Done p e below s (Qrm0 Z p1 sx_REQUIRED sx_REQUIRES_NEW sx_NEVER sx_NESTED sx_MANDATORY sx_NOT_SUPPORTED sx_SUPPORTS h0 n0) room_1.cells room_1.slots (s₁.setTop (entryFrame m #[(.int p1)] maxLocals))
  refine Done.step (fun t k => castTop (ef_0 m p1) k) ?_
  show Done p e below s _ _ _ (s₁.setTop (mkF m 0 #[.val (.int p1), .unset, .unset] []))
  have nx01 : sx_REQUIRED ≠ sx_SUPPORTS := Fld.ne F_sx_REQUIRED_ordinal F_sx_SUPPORTS_ordinal (by decide)
  have nx02 : sx_REQUIRED ≠ sx_MANDATORY := Fld.ne F_sx_REQUIRED_ordinal F_sx_MANDATORY_ordinal (by decide)
  have nx03 : sx_REQUIRED ≠ sx_REQUIRES_NEW := Fld.ne F_sx_REQUIRED_ordinal F_sx_REQUIRES_NEW_ordinal (by decide)
  have nx04 : sx_REQUIRED ≠ sx_NOT_SUPPORTED := Fld.ne F_sx_REQUIRED_ordinal F_sx_NOT_SUPPORTED_ordinal (by decide)
  have nx05 : sx_REQUIRED ≠ sx_NEVER := Fld.ne F_sx_REQUIRED_ordinal F_sx_NEVER_ordinal (by decide)
  have nx06 : sx_REQUIRED ≠ sx_NESTED := Fld.ne F_sx_REQUIRED_ordinal F_sx_NESTED_ordinal (by decide)
  have nx12 : sx_SUPPORTS ≠ sx_MANDATORY := Fld.ne F_sx_SUPPORTS_ordinal F_sx_MANDATORY_ordinal (by decide)
  have nx13 : sx_SUPPORTS ≠ sx_REQUIRES_NEW := Fld.ne F_sx_SUPPORTS_ordinal F_sx_REQUIRES_NEW_ordinal (by decide)
  have nx14 : sx_SUPPORTS ≠ sx_NOT_SUPPORTED := Fld.ne F_sx_SUPPORTS_ordinal F_sx_NOT_SUPPORTED_ordinal (by decide)
  have nx15 : sx_SUPPORTS ≠ sx_NEVER := Fld.ne F_sx_SUPPORTS_ordinal F_sx_NEVER_ordinal (by decide)
  have nx16 : sx_SUPPORTS ≠ sx_NESTED := Fld.ne F_sx_SUPPORTS_ordinal F_sx_NESTED_ordinal (by decide)
  have nx23 : sx_MANDATORY ≠ sx_REQUIRES_NEW := Fld.ne F_sx_MANDATORY_ordinal F_sx_REQUIRES_NEW_ordinal (by decide)
  have nx24 : sx_MANDATORY ≠ sx_NOT_SUPPORTED := Fld.ne F_sx_MANDATORY_ordinal F_sx_NOT_SUPPORTED_ordinal (by decide)
  have nx25 : sx_MANDATORY ≠ sx_NEVER := Fld.ne F_sx_MANDATORY_ordinal F_sx_NEVER_ordinal (by decide)
  have nx26 : sx_MANDATORY ≠ sx_NESTED := Fld.ne F_sx_MANDATORY_ordinal F_sx_NESTED_ordinal (by decide)
  have nx34 : sx_REQUIRES_NEW ≠ sx_NOT_SUPPORTED := Fld.ne F_sx_REQUIRES_NEW_ordinal F_sx_NOT_SUPPORTED_ordinal (by decide)
  have nx35 : sx_REQUIRES_NEW ≠ sx_NEVER := Fld.ne F_sx_REQUIRES_NEW_ordinal F_sx_NEVER_ordinal (by decide)
  have nx36 : sx_REQUIRES_NEW ≠ sx_NESTED := Fld.ne F_sx_REQUIRES_NEW_ordinal F_sx_NESTED_ordinal (by decide)
  have nx45 : sx_NOT_SUPPORTED ≠ sx_NEVER := Fld.ne F_sx_NOT_SUPPORTED_ordinal F_sx_NEVER_ordinal (by decide)
  have nx46 : sx_NOT_SUPPORTED ≠ sx_NESTED := Fld.ne F_sx_NOT_SUPPORTED_ordinal F_sx_NESTED_ordinal (by decide)
  have nx56 : sx_NEVER ≠ sx_NESTED := Fld.ne F_sx_NEVER_ordinal F_sx_NESTED_ordinal (by decide)
  refine Done.step (fun t k => XS.iloadN X0.here hx rfl (hb hby at_0) rfl k) ?_
  show Done p e below s _ _ _ (s₁.setTop (mkF m 1 #[.val (.int p1), .unset, .unset] [(.int p1)]))
  refine Done.step (X0.ldcInt hx hown (mvT hZ (hw _ (List.mem_of_getElem? (i := 0) rfl))) (g := (mkF m 1 #[.val (.int p1), .unset, .unset] [(.int p1)])) rfl (hb hby at_1)) ?_
  show Done p e below s _ _ _ (s₁.setTop (mkF m 3 #[.val (.int p1), .unset, .unset] [(.int (2147483647 : Int32)), (.int p1)]))
  refine Done.step (fun t k => XS.iand X0.here hx rfl (hb hby at_3) rfl k) ?_
  show Done p e below s _ _ _ (s₁.setTop (mkF m 4 #[.val (.int p1), .unset, .unset] [(.int (p1 &&& (2147483647 : Int32)))]))
  refine Done.step (fun t k => XS.bipush X0.here hx rfl (hb hby at_4) k) ?_
  show Done p e below s _ _ _ (s₁.setTop (mkF m 6 #[.val (.int p1), .unset, .unset] [(.int (7 : Int32)), (.int (p1 &&& (2147483647 : Int32)))]))
  refine Done.step (fun t k => iremM X0 hx rfl (hb hby at_6) rfl (by decide) k) ?_
  show Done p e below s _ _ _ (s₁.setTop (mkF m 7 #[.val (.int p1), .unset, .unset] [(.int ((p1 &&& (2147483647 : Int32)) % (7 : Int32)))]))
  refine Done.step (fun t k => XS.istoreN X0.here hx rfl (hb hby at_7) rfl (l' := #[.val (.int p1), .val (.int ((p1 &&& (2147483647 : Int32)) % (7 : Int32))), .unset]) rfl k) ?_
  show Done p e below s _ _ _ (s₁.setTop (mkF m 8 #[.val (.int p1), .val (.int ((p1 &&& (2147483647 : Int32)) % (7 : Int32))), .unset] []))
  refine Done.step (fun t k => XS.iloadN X0.here hx rfl (hb hby at_8) rfl k) ?_
  show Done p e below s _ _ _ (s₁.setTop (mkF m 9 #[.val (.int p1), .val (.int ((p1 &&& (2147483647 : Int32)) % (7 : Int32))), .unset] [(.int ((p1 &&& (2147483647 : Int32)) % (7 : Int32)))]))
  obtain ⟨v1, _, ⟨T1, L1, k1, n1⟩, -, X1, ⟨Lc1, hQ1, l1, y1, z1⟩, st1⟩ := Jvm.LawKit.callS X0 hx (y := (⟨"com/example/ruled_ledger/ruledledger/model/PropagationRunsInTransactionPinLaw", "pick", "(I)Lcom/example/ruled_ledger/ruledledger/model/Propagation;"⟩ : MethodName)) hown (mvT hZ (hw _ (List.mem_of_getElem? (i := 1) rfl))) (mvT hZ (hw _ (List.mem_of_getElem? (i := 2) rfl))) (mvT hZ (hw _ (List.mem_of_getElem? (i := 3) rfl))) (mvT hZ (hw _ (List.mem_of_getElem? (i := 4) rfl))) (by decide) (backOf (W := 0) (rm1 l Z a0 hw [] ((p1 &&& (2147483647 : Int32)) % (7 : Int32)) sx_REQUIRED sx_REQUIRES_NEW sx_NEVER sx_NESTED sx_MANDATORY sx_NOT_SUPPORTED sx_SUPPORTS h0 n0 Z0 S_sx_REQUIRED E_sx_REQUIRED S_sx_REQUIRES_NEW E_sx_REQUIRES_NEW S_sx_NEVER E_sx_NEVER S_sx_NESTED E_sx_NESTED S_sx_MANDATORY E_sx_MANDATORY S_sx_NOT_SUPPORTED E_sx_NOT_SUPPORTED S_sx_SUPPORTS E_sx_SUPPORTS F_sx_REQUIRES_NEW_ordinal F_sx_REQUIRED_ordinal F_sx_NEVER_ordinal F_sx_NESTED_ordinal F_sx_MANDATORY_ordinal F_sx_NOT_SUPPORTED_ordinal F_sx_SUPPORTS_ordinal) hZ (hw _ (List.mem_of_getElem? (i := 4) rfl)) (hw _ (List.mem_of_getElem? (i := 3) rfl)) (by decide) (by decide)) (g := (mkF m 9 #[.val (.int p1), .val (.int ((p1 &&& (2147483647 : Int32)) % (7 : Int32))), .unset] [(.int ((p1 &&& (2147483647 : Int32)) % (7 : Int32)))])) rfl (by rw [hml]; rfl) (argsL := [(.int ((p1 &&& (2147483647 : Int32)) % (7 : Int32)))]) (rest := []) (lenOf pd_0 rfl) rfl (by show 2 * 0 + _ ≤ _; exact Nat.le_of_eq rfl) (hb hby at_9) (fun _ _ => ⟨rfl, e0, (by decide : 0 + 0 ≤ _), (by decide : 0 + 0 ≤ _)⟩)
  dsimp only [Pt.U, Pt.locs, Pt.cells, Pt.slots] at X1 l1 y1 z1 st1 hQ1
  subst l1 y1 z1
  refine Done.step st1 ?_
  obtain ⟨rfl, N1q, e1⟩ := hQ1
  have N1 := Fr.app N0 N1q
  show Done p e below s _ _ _ (T1.setTop (mkF m 12 #[.val (.int p1), .val (.int ((p1 &&& (2147483647 : Int32)) % (7 : Int32))), .unset] [(.ref (PK ((p1 &&& (2147483647 : Int32)) % (7 : Int32)) sx_REQUIRED sx_REQUIRES_NEW sx_NEVER sx_NESTED sx_MANDATORY sx_NOT_SUPPORTED sx_SUPPORTS))]))
  by_cases k0 : ((p1 &&& (2147483647 : Int32)) % (7 : Int32)) = (0 : Int32)
  · rw [show PK ((p1 &&& (2147483647 : Int32)) % (7 : Int32)) sx_REQUIRED sx_REQUIRES_NEW sx_NEVER sx_NESTED sx_MANDATORY sx_NOT_SUPPORTED sx_SUPPORTS = sx_REQUIRED from by unfold PK; rw [if_pos k0]]
    show Done p e below s _ _ _ (T1.setTop (mkF m 12 #[.val (.int p1), .val (.int ((p1 &&& (2147483647 : Int32)) % (7 : Int32))), .unset] [(.ref sx_REQUIRED)]))
    refine Done.step (fun t k => XS.astoreN X1.here hx rfl (hb hby at_12) rfl rfl (l' := #[.val (.int p1), .val (.int ((p1 &&& (2147483647 : Int32)) % (7 : Int32))), .val (.ref sx_REQUIRED)]) rfl k) ?_
    show Done p e below s _ _ _ (T1.setTop (mkF m 13 #[.val (.int p1), .val (.int ((p1 &&& (2147483647 : Int32)) % (7 : Int32))), .val (.ref sx_REQUIRED)] []))
    refine Done.step (fun t k => XS.aloadN X1.here hx rfl (hb hby at_13) rfl rfl k) ?_
    show Done p e below s _ _ _ (T1.setTop (mkF m 14 #[.val (.int p1), .val (.int ((p1 &&& (2147483647 : Int32)) % (7 : Int32))), .val (.ref sx_REQUIRED)] [(.ref sx_REQUIRED)]))
    obtain ⟨cq2, kq2, q2a, q2b, q2c⟩ := isOf hZ e1 E_sx_REQUIRED
    obtain ⟨v2, _, ⟨T2, L2, k2, n2⟩, -, X2, ⟨Lc2, hQ2, l2, y2, z2⟩, st2⟩ := X1.virtualBack hx (y := (⟨"com/example/ruled_ledger/ruledledger/model/Propagation", "runsInTransaction", "()Z"⟩ : MethodName)) (z := (⟨"com/example/ruled_ledger/ruledledger/model/Propagation", "runsInTransaction", "()Z"⟩ : MethodName)) hown (mvT hZ (hw _ (List.mem_of_getElem? (i := 8) rfl))) (mvT hZ (hw _ (List.mem_of_getElem? (i := 9) rfl))) (notFace_of_selects (args := #[]) (mvT hZ (hw _ (List.mem_of_getElem? (i := 11) rfl)))) (mvT hZ (hw _ (List.mem_of_getElem? (i := 11) rfl))) (mvT hZ (hw _ (List.mem_of_getElem? (i := 10) rfl))) (by decide) (backOf (W := 0) (rm2 l Z a0 hw [] sx_REQUIRED sx_REQUIRED sx_REQUIRES_NEW sx_NEVER sx_NESTED sx_MANDATORY sx_NOT_SUPPORTED sx_SUPPORTS h0 n0 Z0 S_sx_REQUIRED E_sx_REQUIRED S_sx_REQUIRES_NEW E_sx_REQUIRES_NEW S_sx_NEVER E_sx_NEVER S_sx_NESTED E_sx_NESTED S_sx_MANDATORY E_sx_MANDATORY S_sx_NOT_SUPPORTED E_sx_NOT_SUPPORTED S_sx_SUPPORTS E_sx_SUPPORTS F_sx_REQUIRES_NEW_ordinal F_sx_REQUIRED_ordinal F_sx_NEVER_ordinal F_sx_NESTED_ordinal F_sx_MANDATORY_ordinal F_sx_NOT_SUPPORTED_ordinal F_sx_SUPPORTS_ordinal) hZ (hw _ (List.mem_of_getElem? (i := 12) rfl)) (hw _ (List.mem_of_getElem? (i := 6) rfl)) (by decide) (by decide)) q2a q2c (g := (mkF m 14 #[.val (.int p1), .val (.int ((p1 &&& (2147483647 : Int32)) % (7 : Int32))), .val (.ref sx_REQUIRED)] [(.ref sx_REQUIRED)])) rfl (by rw [hml]; rfl) (Steps.refl _) (argsL := []) (rest := []) (lenOf pd_1 rfl) rfl (by show 2 * 0 + _ ≤ _; exact Nat.le_of_eq rfl) (hb hby at_14) (fun _ _ => ⟨rfl, e1, (by decide : 0 + 0 ≤ _), (by decide : 0 + 0 ≤ _)⟩)
    dsimp only [Pt.U, Pt.locs, Pt.cells, Pt.slots] at X2 l2 y2 z2 st2 hQ2
    subst l2 y2 z2
    refine Done.far st2 ?_
    obtain ⟨rfl, N2q, e2⟩ := hQ2
    have N2 := Fr.app N1 N2q
    show Done p e below s _ _ _ (T2.setTop (mkF m 17 #[.val (.int p1), .val (.int ((p1 &&& (2147483647 : Int32)) % (7 : Int32))), .val (.ref sx_REQUIRED)] [(.int (RT sx_REQUIRED sx_REQUIRED sx_REQUIRES_NEW sx_NEVER sx_NESTED sx_MANDATORY sx_NOT_SUPPORTED sx_SUPPORTS))]))
    refine Done.step (fun t k => XS.iloadN X2.here hx rfl (hb hby at_17) rfl k) ?_
    show Done p e below s _ _ _ (T2.setTop (mkF m 18 #[.val (.int p1), .val (.int ((p1 &&& (2147483647 : Int32)) % (7 : Int32))), .val (.ref sx_REQUIRED)] [(.int ((p1 &&& (2147483647 : Int32)) % (7 : Int32))), (.int (RT sx_REQUIRED sx_REQUIRED sx_REQUIRES_NEW sx_NEVER sx_NESTED sx_MANDATORY sx_NOT_SUPPORTED sx_SUPPORTS))]))
    obtain ⟨v3, _, ⟨T3, L3, k3, n3⟩, -, X3, ⟨Lc3, hQ3, l3, y3, z3⟩, st3⟩ := Jvm.LawKit.callS X2 hx (y := (⟨"com/example/ruled_ledger/ruledledger/model/PropagationRunsInTransactionPinLaw", "expected", "(I)Z"⟩ : MethodName)) hown (mvT hZ (hw _ (List.mem_of_getElem? (i := 14) rfl))) (mvT hZ (hw _ (List.mem_of_getElem? (i := 15) rfl))) (mvT hZ (hw _ (List.mem_of_getElem? (i := 3) rfl))) (mvT hZ (hw _ (List.mem_of_getElem? (i := 16) rfl))) (by decide) (backOf (W := 1) (rm3 l Z a0 hw [] ((p1 &&& (2147483647 : Int32)) % (7 : Int32)) h0 n0 Z0 ) hZ (hw _ (List.mem_of_getElem? (i := 16) rfl)) (hw _ (List.mem_of_getElem? (i := 3) rfl)) (by decide) (by decide)) (g := (mkF m 18 #[.val (.int p1), .val (.int ((p1 &&& (2147483647 : Int32)) % (7 : Int32))), .val (.ref sx_REQUIRED)] [(.int ((p1 &&& (2147483647 : Int32)) % (7 : Int32))), (.int (RT sx_REQUIRED sx_REQUIRED sx_REQUIRES_NEW sx_NEVER sx_NESTED sx_MANDATORY sx_NOT_SUPPORTED sx_SUPPORTS))])) rfl (by rw [hml]; rfl) (argsL := [(.int ((p1 &&& (2147483647 : Int32)) % (7 : Int32)))]) (rest := [(.int (RT sx_REQUIRED sx_REQUIRED sx_REQUIRES_NEW sx_NEVER sx_NESTED sx_MANDATORY sx_NOT_SUPPORTED sx_SUPPORTS))]) (lenOf pd_2 rfl) rfl (by show 2 * 0 + _ ≤ _; exact Nat.le_of_eq rfl) (hb hby at_18) (fun _ _ => ⟨rfl, e2, (by decide : 0 + 0 ≤ _), (by decide : 0 + 0 ≤ _)⟩)
    dsimp only [Pt.U, Pt.locs, Pt.cells, Pt.slots] at X3 l3 y3 z3 st3 hQ3
    subst l3 y3 z3
    refine Done.step st3 ?_
    obtain ⟨rfl, N3q, e3⟩ := hQ3
    have N3 := Fr.app N2 N3q
    show Done p e below s _ _ _ (T3.setTop (mkF m 21 #[.val (.int p1), .val (.int ((p1 &&& (2147483647 : Int32)) % (7 : Int32))), .val (.ref sx_REQUIRED)] [(.int (F3 ((p1 &&& (2147483647 : Int32)) % (7 : Int32)))), (.int (RT sx_REQUIRED sx_REQUIRED sx_REQUIRES_NEW sx_NEVER sx_NESTED sx_MANDATORY sx_NOT_SUPPORTED sx_SUPPORTS))]))
    refine Done.step (fun t k => XS.icmpNo X3.here hx rfl (hb hby at_21) rfl (teq (own_eq0 p1 sx_REQUIRED sx_REQUIRES_NEW sx_NEVER sx_NESTED sx_MANDATORY sx_NOT_SUPPORTED sx_SUPPORTS nx01 nx02 nx03 nx04 nx05 nx06 nx12 nx13 nx14 nx15 nx16 nx23 nx24 nx25 nx26 nx34 nx35 nx36 nx45 nx46 nx56 k0)).2 k) ?_
    show Done p e below s _ _ _ (T3.setTop (mkF m 24 #[.val (.int p1), .val (.int ((p1 &&& (2147483647 : Int32)) % (7 : Int32))), .val (.ref sx_REQUIRED)] []))
    refine Done.step (fun t k => XS.iconst X3.here hx rfl (hb hby at_24) k) ?_
    show Done p e below s _ _ _ (T3.setTop (mkF m 25 #[.val (.int p1), .val (.int ((p1 &&& (2147483647 : Int32)) % (7 : Int32))), .val (.ref sx_REQUIRED)] [(.int (1 : Int32))]))
    refine Done.step (fun t k => XS.goto X3.here hx rfl (pc0 := 25) (pc' := 29) rfl (hb hby at_25) (by decide) (by decide) k) ?_
    show Done p e below s _ _ _ (T3.setTop (mkF m 29 #[.val (.int p1), .val (.int ((p1 &&& (2147483647 : Int32)) % (7 : Int32))), .val (.ref sx_REQUIRED)] [(.int (1 : Int32))]))
    exact Done.narr X3 hx hlk hret (by simp) (hb hby at_29) (by decide) (by decide) ⟨rfl, N3⟩
  skip
  by_cases k1 : ((p1 &&& (2147483647 : Int32)) % (7 : Int32)) = (1 : Int32)
  · rw [show PK ((p1 &&& (2147483647 : Int32)) % (7 : Int32)) sx_REQUIRED sx_REQUIRES_NEW sx_NEVER sx_NESTED sx_MANDATORY sx_NOT_SUPPORTED sx_SUPPORTS = sx_SUPPORTS from by unfold PK; rw [if_neg k0, if_pos k1]]
    show Done p e below s _ _ _ (T1.setTop (mkF m 12 #[.val (.int p1), .val (.int ((p1 &&& (2147483647 : Int32)) % (7 : Int32))), .unset] [(.ref sx_SUPPORTS)]))
    refine Done.step (fun t k => XS.astoreN X1.here hx rfl (hb hby at_12) rfl rfl (l' := #[.val (.int p1), .val (.int ((p1 &&& (2147483647 : Int32)) % (7 : Int32))), .val (.ref sx_SUPPORTS)]) rfl k) ?_
    show Done p e below s _ _ _ (T1.setTop (mkF m 13 #[.val (.int p1), .val (.int ((p1 &&& (2147483647 : Int32)) % (7 : Int32))), .val (.ref sx_SUPPORTS)] []))
    refine Done.step (fun t k => XS.aloadN X1.here hx rfl (hb hby at_13) rfl rfl k) ?_
    show Done p e below s _ _ _ (T1.setTop (mkF m 14 #[.val (.int p1), .val (.int ((p1 &&& (2147483647 : Int32)) % (7 : Int32))), .val (.ref sx_SUPPORTS)] [(.ref sx_SUPPORTS)]))
    obtain ⟨cq4, kq4, q4a, q4b, q4c⟩ := isOf hZ e1 E_sx_SUPPORTS
    obtain ⟨v4, _, ⟨T4, L4, k4, n4⟩, -, X4, ⟨Lc4, hQ4, l4, y4, z4⟩, st4⟩ := X1.virtualBack hx (y := (⟨"com/example/ruled_ledger/ruledledger/model/Propagation", "runsInTransaction", "()Z"⟩ : MethodName)) (z := (⟨"com/example/ruled_ledger/ruledledger/model/Propagation", "runsInTransaction", "()Z"⟩ : MethodName)) hown (mvT hZ (hw _ (List.mem_of_getElem? (i := 8) rfl))) (mvT hZ (hw _ (List.mem_of_getElem? (i := 9) rfl))) (notFace_of_selects (args := #[]) (mvT hZ (hw _ (List.mem_of_getElem? (i := 11) rfl)))) (mvT hZ (hw _ (List.mem_of_getElem? (i := 11) rfl))) (mvT hZ (hw _ (List.mem_of_getElem? (i := 10) rfl))) (by decide) (backOf (W := 0) (rm2 l Z a0 hw [] sx_SUPPORTS sx_REQUIRED sx_REQUIRES_NEW sx_NEVER sx_NESTED sx_MANDATORY sx_NOT_SUPPORTED sx_SUPPORTS h0 n0 Z0 S_sx_REQUIRED E_sx_REQUIRED S_sx_REQUIRES_NEW E_sx_REQUIRES_NEW S_sx_NEVER E_sx_NEVER S_sx_NESTED E_sx_NESTED S_sx_MANDATORY E_sx_MANDATORY S_sx_NOT_SUPPORTED E_sx_NOT_SUPPORTED S_sx_SUPPORTS E_sx_SUPPORTS F_sx_REQUIRES_NEW_ordinal F_sx_REQUIRED_ordinal F_sx_NEVER_ordinal F_sx_NESTED_ordinal F_sx_MANDATORY_ordinal F_sx_NOT_SUPPORTED_ordinal F_sx_SUPPORTS_ordinal) hZ (hw _ (List.mem_of_getElem? (i := 12) rfl)) (hw _ (List.mem_of_getElem? (i := 6) rfl)) (by decide) (by decide)) q4a q4c (g := (mkF m 14 #[.val (.int p1), .val (.int ((p1 &&& (2147483647 : Int32)) % (7 : Int32))), .val (.ref sx_SUPPORTS)] [(.ref sx_SUPPORTS)])) rfl (by rw [hml]; rfl) (Steps.refl _) (argsL := []) (rest := []) (lenOf pd_1 rfl) rfl (by show 2 * 0 + _ ≤ _; exact Nat.le_of_eq rfl) (hb hby at_14) (fun _ _ => ⟨rfl, e1, (by decide : 0 + 0 ≤ _), (by decide : 0 + 0 ≤ _)⟩)
    dsimp only [Pt.U, Pt.locs, Pt.cells, Pt.slots] at X4 l4 y4 z4 st4 hQ4
    subst l4 y4 z4
    refine Done.far st4 ?_
    obtain ⟨rfl, N4q, e4⟩ := hQ4
    have N4 := Fr.app N1 N4q
    show Done p e below s _ _ _ (T4.setTop (mkF m 17 #[.val (.int p1), .val (.int ((p1 &&& (2147483647 : Int32)) % (7 : Int32))), .val (.ref sx_SUPPORTS)] [(.int (RT sx_SUPPORTS sx_REQUIRED sx_REQUIRES_NEW sx_NEVER sx_NESTED sx_MANDATORY sx_NOT_SUPPORTED sx_SUPPORTS))]))
    refine Done.step (fun t k => XS.iloadN X4.here hx rfl (hb hby at_17) rfl k) ?_
    show Done p e below s _ _ _ (T4.setTop (mkF m 18 #[.val (.int p1), .val (.int ((p1 &&& (2147483647 : Int32)) % (7 : Int32))), .val (.ref sx_SUPPORTS)] [(.int ((p1 &&& (2147483647 : Int32)) % (7 : Int32))), (.int (RT sx_SUPPORTS sx_REQUIRED sx_REQUIRES_NEW sx_NEVER sx_NESTED sx_MANDATORY sx_NOT_SUPPORTED sx_SUPPORTS))]))
    obtain ⟨v5, _, ⟨T5, L5, k5, n5⟩, -, X5, ⟨Lc5, hQ5, l5, y5, z5⟩, st5⟩ := Jvm.LawKit.callS X4 hx (y := (⟨"com/example/ruled_ledger/ruledledger/model/PropagationRunsInTransactionPinLaw", "expected", "(I)Z"⟩ : MethodName)) hown (mvT hZ (hw _ (List.mem_of_getElem? (i := 14) rfl))) (mvT hZ (hw _ (List.mem_of_getElem? (i := 15) rfl))) (mvT hZ (hw _ (List.mem_of_getElem? (i := 3) rfl))) (mvT hZ (hw _ (List.mem_of_getElem? (i := 16) rfl))) (by decide) (backOf (W := 1) (rm3 l Z a0 hw [] ((p1 &&& (2147483647 : Int32)) % (7 : Int32)) h0 n0 Z0 ) hZ (hw _ (List.mem_of_getElem? (i := 16) rfl)) (hw _ (List.mem_of_getElem? (i := 3) rfl)) (by decide) (by decide)) (g := (mkF m 18 #[.val (.int p1), .val (.int ((p1 &&& (2147483647 : Int32)) % (7 : Int32))), .val (.ref sx_SUPPORTS)] [(.int ((p1 &&& (2147483647 : Int32)) % (7 : Int32))), (.int (RT sx_SUPPORTS sx_REQUIRED sx_REQUIRES_NEW sx_NEVER sx_NESTED sx_MANDATORY sx_NOT_SUPPORTED sx_SUPPORTS))])) rfl (by rw [hml]; rfl) (argsL := [(.int ((p1 &&& (2147483647 : Int32)) % (7 : Int32)))]) (rest := [(.int (RT sx_SUPPORTS sx_REQUIRED sx_REQUIRES_NEW sx_NEVER sx_NESTED sx_MANDATORY sx_NOT_SUPPORTED sx_SUPPORTS))]) (lenOf pd_2 rfl) rfl (by show 2 * 0 + _ ≤ _; exact Nat.le_of_eq rfl) (hb hby at_18) (fun _ _ => ⟨rfl, e4, (by decide : 0 + 0 ≤ _), (by decide : 0 + 0 ≤ _)⟩)
    dsimp only [Pt.U, Pt.locs, Pt.cells, Pt.slots] at X5 l5 y5 z5 st5 hQ5
    subst l5 y5 z5
    refine Done.step st5 ?_
    obtain ⟨rfl, N5q, e5⟩ := hQ5
    have N5 := Fr.app N4 N5q
    show Done p e below s _ _ _ (T5.setTop (mkF m 21 #[.val (.int p1), .val (.int ((p1 &&& (2147483647 : Int32)) % (7 : Int32))), .val (.ref sx_SUPPORTS)] [(.int (F3 ((p1 &&& (2147483647 : Int32)) % (7 : Int32)))), (.int (RT sx_SUPPORTS sx_REQUIRED sx_REQUIRES_NEW sx_NEVER sx_NESTED sx_MANDATORY sx_NOT_SUPPORTED sx_SUPPORTS))]))
    refine Done.step (fun t k => XS.icmpNo X5.here hx rfl (hb hby at_21) rfl (teq (own_eq1 p1 sx_REQUIRED sx_REQUIRES_NEW sx_NEVER sx_NESTED sx_MANDATORY sx_NOT_SUPPORTED sx_SUPPORTS nx01 nx02 nx03 nx04 nx05 nx06 nx12 nx13 nx14 nx15 nx16 nx23 nx24 nx25 nx26 nx34 nx35 nx36 nx45 nx46 nx56 k0 k1)).2 k) ?_
    show Done p e below s _ _ _ (T5.setTop (mkF m 24 #[.val (.int p1), .val (.int ((p1 &&& (2147483647 : Int32)) % (7 : Int32))), .val (.ref sx_SUPPORTS)] []))
    refine Done.step (fun t k => XS.iconst X5.here hx rfl (hb hby at_24) k) ?_
    show Done p e below s _ _ _ (T5.setTop (mkF m 25 #[.val (.int p1), .val (.int ((p1 &&& (2147483647 : Int32)) % (7 : Int32))), .val (.ref sx_SUPPORTS)] [(.int (1 : Int32))]))
    refine Done.step (fun t k => XS.goto X5.here hx rfl (pc0 := 25) (pc' := 29) rfl (hb hby at_25) (by decide) (by decide) k) ?_
    show Done p e below s _ _ _ (T5.setTop (mkF m 29 #[.val (.int p1), .val (.int ((p1 &&& (2147483647 : Int32)) % (7 : Int32))), .val (.ref sx_SUPPORTS)] [(.int (1 : Int32))]))
    exact Done.narr X5 hx hlk hret (by simp) (hb hby at_29) (by decide) (by decide) ⟨rfl, N5⟩
  skip
  by_cases k2 : ((p1 &&& (2147483647 : Int32)) % (7 : Int32)) = (2 : Int32)
  · rw [show PK ((p1 &&& (2147483647 : Int32)) % (7 : Int32)) sx_REQUIRED sx_REQUIRES_NEW sx_NEVER sx_NESTED sx_MANDATORY sx_NOT_SUPPORTED sx_SUPPORTS = sx_MANDATORY from by unfold PK; rw [if_neg k0, if_neg k1, if_pos k2]]
    show Done p e below s _ _ _ (T1.setTop (mkF m 12 #[.val (.int p1), .val (.int ((p1 &&& (2147483647 : Int32)) % (7 : Int32))), .unset] [(.ref sx_MANDATORY)]))
    refine Done.step (fun t k => XS.astoreN X1.here hx rfl (hb hby at_12) rfl rfl (l' := #[.val (.int p1), .val (.int ((p1 &&& (2147483647 : Int32)) % (7 : Int32))), .val (.ref sx_MANDATORY)]) rfl k) ?_
    show Done p e below s _ _ _ (T1.setTop (mkF m 13 #[.val (.int p1), .val (.int ((p1 &&& (2147483647 : Int32)) % (7 : Int32))), .val (.ref sx_MANDATORY)] []))
    refine Done.step (fun t k => XS.aloadN X1.here hx rfl (hb hby at_13) rfl rfl k) ?_
    show Done p e below s _ _ _ (T1.setTop (mkF m 14 #[.val (.int p1), .val (.int ((p1 &&& (2147483647 : Int32)) % (7 : Int32))), .val (.ref sx_MANDATORY)] [(.ref sx_MANDATORY)]))
    obtain ⟨cq6, kq6, q6a, q6b, q6c⟩ := isOf hZ e1 E_sx_MANDATORY
    obtain ⟨v6, _, ⟨T6, L6, k6, n6⟩, -, X6, ⟨Lc6, hQ6, l6, y6, z6⟩, st6⟩ := X1.virtualBack hx (y := (⟨"com/example/ruled_ledger/ruledledger/model/Propagation", "runsInTransaction", "()Z"⟩ : MethodName)) (z := (⟨"com/example/ruled_ledger/ruledledger/model/Propagation", "runsInTransaction", "()Z"⟩ : MethodName)) hown (mvT hZ (hw _ (List.mem_of_getElem? (i := 8) rfl))) (mvT hZ (hw _ (List.mem_of_getElem? (i := 9) rfl))) (notFace_of_selects (args := #[]) (mvT hZ (hw _ (List.mem_of_getElem? (i := 11) rfl)))) (mvT hZ (hw _ (List.mem_of_getElem? (i := 11) rfl))) (mvT hZ (hw _ (List.mem_of_getElem? (i := 10) rfl))) (by decide) (backOf (W := 0) (rm2 l Z a0 hw [] sx_MANDATORY sx_REQUIRED sx_REQUIRES_NEW sx_NEVER sx_NESTED sx_MANDATORY sx_NOT_SUPPORTED sx_SUPPORTS h0 n0 Z0 S_sx_REQUIRED E_sx_REQUIRED S_sx_REQUIRES_NEW E_sx_REQUIRES_NEW S_sx_NEVER E_sx_NEVER S_sx_NESTED E_sx_NESTED S_sx_MANDATORY E_sx_MANDATORY S_sx_NOT_SUPPORTED E_sx_NOT_SUPPORTED S_sx_SUPPORTS E_sx_SUPPORTS F_sx_REQUIRES_NEW_ordinal F_sx_REQUIRED_ordinal F_sx_NEVER_ordinal F_sx_NESTED_ordinal F_sx_MANDATORY_ordinal F_sx_NOT_SUPPORTED_ordinal F_sx_SUPPORTS_ordinal) hZ (hw _ (List.mem_of_getElem? (i := 12) rfl)) (hw _ (List.mem_of_getElem? (i := 6) rfl)) (by decide) (by decide)) q6a q6c (g := (mkF m 14 #[.val (.int p1), .val (.int ((p1 &&& (2147483647 : Int32)) % (7 : Int32))), .val (.ref sx_MANDATORY)] [(.ref sx_MANDATORY)])) rfl (by rw [hml]; rfl) (Steps.refl _) (argsL := []) (rest := []) (lenOf pd_1 rfl) rfl (by show 2 * 0 + _ ≤ _; exact Nat.le_of_eq rfl) (hb hby at_14) (fun _ _ => ⟨rfl, e1, (by decide : 0 + 0 ≤ _), (by decide : 0 + 0 ≤ _)⟩)
    dsimp only [Pt.U, Pt.locs, Pt.cells, Pt.slots] at X6 l6 y6 z6 st6 hQ6
    subst l6 y6 z6
    refine Done.far st6 ?_
    obtain ⟨rfl, N6q, e6⟩ := hQ6
    have N6 := Fr.app N1 N6q
    show Done p e below s _ _ _ (T6.setTop (mkF m 17 #[.val (.int p1), .val (.int ((p1 &&& (2147483647 : Int32)) % (7 : Int32))), .val (.ref sx_MANDATORY)] [(.int (RT sx_MANDATORY sx_REQUIRED sx_REQUIRES_NEW sx_NEVER sx_NESTED sx_MANDATORY sx_NOT_SUPPORTED sx_SUPPORTS))]))
    refine Done.step (fun t k => XS.iloadN X6.here hx rfl (hb hby at_17) rfl k) ?_
    show Done p e below s _ _ _ (T6.setTop (mkF m 18 #[.val (.int p1), .val (.int ((p1 &&& (2147483647 : Int32)) % (7 : Int32))), .val (.ref sx_MANDATORY)] [(.int ((p1 &&& (2147483647 : Int32)) % (7 : Int32))), (.int (RT sx_MANDATORY sx_REQUIRED sx_REQUIRES_NEW sx_NEVER sx_NESTED sx_MANDATORY sx_NOT_SUPPORTED sx_SUPPORTS))]))
    obtain ⟨v7, _, ⟨T7, L7, k7, n7⟩, -, X7, ⟨Lc7, hQ7, l7, y7, z7⟩, st7⟩ := Jvm.LawKit.callS X6 hx (y := (⟨"com/example/ruled_ledger/ruledledger/model/PropagationRunsInTransactionPinLaw", "expected", "(I)Z"⟩ : MethodName)) hown (mvT hZ (hw _ (List.mem_of_getElem? (i := 14) rfl))) (mvT hZ (hw _ (List.mem_of_getElem? (i := 15) rfl))) (mvT hZ (hw _ (List.mem_of_getElem? (i := 3) rfl))) (mvT hZ (hw _ (List.mem_of_getElem? (i := 16) rfl))) (by decide) (backOf (W := 1) (rm3 l Z a0 hw [] ((p1 &&& (2147483647 : Int32)) % (7 : Int32)) h0 n0 Z0 ) hZ (hw _ (List.mem_of_getElem? (i := 16) rfl)) (hw _ (List.mem_of_getElem? (i := 3) rfl)) (by decide) (by decide)) (g := (mkF m 18 #[.val (.int p1), .val (.int ((p1 &&& (2147483647 : Int32)) % (7 : Int32))), .val (.ref sx_MANDATORY)] [(.int ((p1 &&& (2147483647 : Int32)) % (7 : Int32))), (.int (RT sx_MANDATORY sx_REQUIRED sx_REQUIRES_NEW sx_NEVER sx_NESTED sx_MANDATORY sx_NOT_SUPPORTED sx_SUPPORTS))])) rfl (by rw [hml]; rfl) (argsL := [(.int ((p1 &&& (2147483647 : Int32)) % (7 : Int32)))]) (rest := [(.int (RT sx_MANDATORY sx_REQUIRED sx_REQUIRES_NEW sx_NEVER sx_NESTED sx_MANDATORY sx_NOT_SUPPORTED sx_SUPPORTS))]) (lenOf pd_2 rfl) rfl (by show 2 * 0 + _ ≤ _; exact Nat.le_of_eq rfl) (hb hby at_18) (fun _ _ => ⟨rfl, e6, (by decide : 0 + 0 ≤ _), (by decide : 0 + 0 ≤ _)⟩)
    dsimp only [Pt.U, Pt.locs, Pt.cells, Pt.slots] at X7 l7 y7 z7 st7 hQ7
    subst l7 y7 z7
    refine Done.step st7 ?_
    obtain ⟨rfl, N7q, e7⟩ := hQ7
    have N7 := Fr.app N6 N7q
    show Done p e below s _ _ _ (T7.setTop (mkF m 21 #[.val (.int p1), .val (.int ((p1 &&& (2147483647 : Int32)) % (7 : Int32))), .val (.ref sx_MANDATORY)] [(.int (F3 ((p1 &&& (2147483647 : Int32)) % (7 : Int32)))), (.int (RT sx_MANDATORY sx_REQUIRED sx_REQUIRES_NEW sx_NEVER sx_NESTED sx_MANDATORY sx_NOT_SUPPORTED sx_SUPPORTS))]))
    refine Done.step (fun t k => XS.icmpNo X7.here hx rfl (hb hby at_21) rfl (teq (own_eq2 p1 sx_REQUIRED sx_REQUIRES_NEW sx_NEVER sx_NESTED sx_MANDATORY sx_NOT_SUPPORTED sx_SUPPORTS nx01 nx02 nx03 nx04 nx05 nx06 nx12 nx13 nx14 nx15 nx16 nx23 nx24 nx25 nx26 nx34 nx35 nx36 nx45 nx46 nx56 k0 k1 k2)).2 k) ?_
    show Done p e below s _ _ _ (T7.setTop (mkF m 24 #[.val (.int p1), .val (.int ((p1 &&& (2147483647 : Int32)) % (7 : Int32))), .val (.ref sx_MANDATORY)] []))
    refine Done.step (fun t k => XS.iconst X7.here hx rfl (hb hby at_24) k) ?_
    show Done p e below s _ _ _ (T7.setTop (mkF m 25 #[.val (.int p1), .val (.int ((p1 &&& (2147483647 : Int32)) % (7 : Int32))), .val (.ref sx_MANDATORY)] [(.int (1 : Int32))]))
    refine Done.step (fun t k => XS.goto X7.here hx rfl (pc0 := 25) (pc' := 29) rfl (hb hby at_25) (by decide) (by decide) k) ?_
    show Done p e below s _ _ _ (T7.setTop (mkF m 29 #[.val (.int p1), .val (.int ((p1 &&& (2147483647 : Int32)) % (7 : Int32))), .val (.ref sx_MANDATORY)] [(.int (1 : Int32))]))
    exact Done.narr X7 hx hlk hret (by simp) (hb hby at_29) (by decide) (by decide) ⟨rfl, N7⟩
  skip
  by_cases k3 : ((p1 &&& (2147483647 : Int32)) % (7 : Int32)) = (3 : Int32)
  · rw [show PK ((p1 &&& (2147483647 : Int32)) % (7 : Int32)) sx_REQUIRED sx_REQUIRES_NEW sx_NEVER sx_NESTED sx_MANDATORY sx_NOT_SUPPORTED sx_SUPPORTS = sx_REQUIRES_NEW from by unfold PK; rw [if_neg k0, if_neg k1, if_neg k2, if_pos k3]]
    show Done p e below s _ _ _ (T1.setTop (mkF m 12 #[.val (.int p1), .val (.int ((p1 &&& (2147483647 : Int32)) % (7 : Int32))), .unset] [(.ref sx_REQUIRES_NEW)]))
    refine Done.step (fun t k => XS.astoreN X1.here hx rfl (hb hby at_12) rfl rfl (l' := #[.val (.int p1), .val (.int ((p1 &&& (2147483647 : Int32)) % (7 : Int32))), .val (.ref sx_REQUIRES_NEW)]) rfl k) ?_
    show Done p e below s _ _ _ (T1.setTop (mkF m 13 #[.val (.int p1), .val (.int ((p1 &&& (2147483647 : Int32)) % (7 : Int32))), .val (.ref sx_REQUIRES_NEW)] []))
    refine Done.step (fun t k => XS.aloadN X1.here hx rfl (hb hby at_13) rfl rfl k) ?_
    show Done p e below s _ _ _ (T1.setTop (mkF m 14 #[.val (.int p1), .val (.int ((p1 &&& (2147483647 : Int32)) % (7 : Int32))), .val (.ref sx_REQUIRES_NEW)] [(.ref sx_REQUIRES_NEW)]))
    obtain ⟨cq8, kq8, q8a, q8b, q8c⟩ := isOf hZ e1 E_sx_REQUIRES_NEW
    obtain ⟨v8, _, ⟨T8, L8, k8, n8⟩, -, X8, ⟨Lc8, hQ8, l8, y8, z8⟩, st8⟩ := X1.virtualBack hx (y := (⟨"com/example/ruled_ledger/ruledledger/model/Propagation", "runsInTransaction", "()Z"⟩ : MethodName)) (z := (⟨"com/example/ruled_ledger/ruledledger/model/Propagation", "runsInTransaction", "()Z"⟩ : MethodName)) hown (mvT hZ (hw _ (List.mem_of_getElem? (i := 8) rfl))) (mvT hZ (hw _ (List.mem_of_getElem? (i := 9) rfl))) (notFace_of_selects (args := #[]) (mvT hZ (hw _ (List.mem_of_getElem? (i := 11) rfl)))) (mvT hZ (hw _ (List.mem_of_getElem? (i := 11) rfl))) (mvT hZ (hw _ (List.mem_of_getElem? (i := 10) rfl))) (by decide) (backOf (W := 0) (rm2 l Z a0 hw [] sx_REQUIRES_NEW sx_REQUIRED sx_REQUIRES_NEW sx_NEVER sx_NESTED sx_MANDATORY sx_NOT_SUPPORTED sx_SUPPORTS h0 n0 Z0 S_sx_REQUIRED E_sx_REQUIRED S_sx_REQUIRES_NEW E_sx_REQUIRES_NEW S_sx_NEVER E_sx_NEVER S_sx_NESTED E_sx_NESTED S_sx_MANDATORY E_sx_MANDATORY S_sx_NOT_SUPPORTED E_sx_NOT_SUPPORTED S_sx_SUPPORTS E_sx_SUPPORTS F_sx_REQUIRES_NEW_ordinal F_sx_REQUIRED_ordinal F_sx_NEVER_ordinal F_sx_NESTED_ordinal F_sx_MANDATORY_ordinal F_sx_NOT_SUPPORTED_ordinal F_sx_SUPPORTS_ordinal) hZ (hw _ (List.mem_of_getElem? (i := 12) rfl)) (hw _ (List.mem_of_getElem? (i := 6) rfl)) (by decide) (by decide)) q8a q8c (g := (mkF m 14 #[.val (.int p1), .val (.int ((p1 &&& (2147483647 : Int32)) % (7 : Int32))), .val (.ref sx_REQUIRES_NEW)] [(.ref sx_REQUIRES_NEW)])) rfl (by rw [hml]; rfl) (Steps.refl _) (argsL := []) (rest := []) (lenOf pd_1 rfl) rfl (by show 2 * 0 + _ ≤ _; exact Nat.le_of_eq rfl) (hb hby at_14) (fun _ _ => ⟨rfl, e1, (by decide : 0 + 0 ≤ _), (by decide : 0 + 0 ≤ _)⟩)
    dsimp only [Pt.U, Pt.locs, Pt.cells, Pt.slots] at X8 l8 y8 z8 st8 hQ8
    subst l8 y8 z8
    refine Done.far st8 ?_
    obtain ⟨rfl, N8q, e8⟩ := hQ8
    have N8 := Fr.app N1 N8q
    show Done p e below s _ _ _ (T8.setTop (mkF m 17 #[.val (.int p1), .val (.int ((p1 &&& (2147483647 : Int32)) % (7 : Int32))), .val (.ref sx_REQUIRES_NEW)] [(.int (RT sx_REQUIRES_NEW sx_REQUIRED sx_REQUIRES_NEW sx_NEVER sx_NESTED sx_MANDATORY sx_NOT_SUPPORTED sx_SUPPORTS))]))
    refine Done.step (fun t k => XS.iloadN X8.here hx rfl (hb hby at_17) rfl k) ?_
    show Done p e below s _ _ _ (T8.setTop (mkF m 18 #[.val (.int p1), .val (.int ((p1 &&& (2147483647 : Int32)) % (7 : Int32))), .val (.ref sx_REQUIRES_NEW)] [(.int ((p1 &&& (2147483647 : Int32)) % (7 : Int32))), (.int (RT sx_REQUIRES_NEW sx_REQUIRED sx_REQUIRES_NEW sx_NEVER sx_NESTED sx_MANDATORY sx_NOT_SUPPORTED sx_SUPPORTS))]))
    obtain ⟨v9, _, ⟨T9, L9, k9, n9⟩, -, X9, ⟨Lc9, hQ9, l9, y9, z9⟩, st9⟩ := Jvm.LawKit.callS X8 hx (y := (⟨"com/example/ruled_ledger/ruledledger/model/PropagationRunsInTransactionPinLaw", "expected", "(I)Z"⟩ : MethodName)) hown (mvT hZ (hw _ (List.mem_of_getElem? (i := 14) rfl))) (mvT hZ (hw _ (List.mem_of_getElem? (i := 15) rfl))) (mvT hZ (hw _ (List.mem_of_getElem? (i := 3) rfl))) (mvT hZ (hw _ (List.mem_of_getElem? (i := 16) rfl))) (by decide) (backOf (W := 1) (rm3 l Z a0 hw [] ((p1 &&& (2147483647 : Int32)) % (7 : Int32)) h0 n0 Z0 ) hZ (hw _ (List.mem_of_getElem? (i := 16) rfl)) (hw _ (List.mem_of_getElem? (i := 3) rfl)) (by decide) (by decide)) (g := (mkF m 18 #[.val (.int p1), .val (.int ((p1 &&& (2147483647 : Int32)) % (7 : Int32))), .val (.ref sx_REQUIRES_NEW)] [(.int ((p1 &&& (2147483647 : Int32)) % (7 : Int32))), (.int (RT sx_REQUIRES_NEW sx_REQUIRED sx_REQUIRES_NEW sx_NEVER sx_NESTED sx_MANDATORY sx_NOT_SUPPORTED sx_SUPPORTS))])) rfl (by rw [hml]; rfl) (argsL := [(.int ((p1 &&& (2147483647 : Int32)) % (7 : Int32)))]) (rest := [(.int (RT sx_REQUIRES_NEW sx_REQUIRED sx_REQUIRES_NEW sx_NEVER sx_NESTED sx_MANDATORY sx_NOT_SUPPORTED sx_SUPPORTS))]) (lenOf pd_2 rfl) rfl (by show 2 * 0 + _ ≤ _; exact Nat.le_of_eq rfl) (hb hby at_18) (fun _ _ => ⟨rfl, e8, (by decide : 0 + 0 ≤ _), (by decide : 0 + 0 ≤ _)⟩)
    dsimp only [Pt.U, Pt.locs, Pt.cells, Pt.slots] at X9 l9 y9 z9 st9 hQ9
    subst l9 y9 z9
    refine Done.step st9 ?_
    obtain ⟨rfl, N9q, e9⟩ := hQ9
    have N9 := Fr.app N8 N9q
    show Done p e below s _ _ _ (T9.setTop (mkF m 21 #[.val (.int p1), .val (.int ((p1 &&& (2147483647 : Int32)) % (7 : Int32))), .val (.ref sx_REQUIRES_NEW)] [(.int (F3 ((p1 &&& (2147483647 : Int32)) % (7 : Int32)))), (.int (RT sx_REQUIRES_NEW sx_REQUIRED sx_REQUIRES_NEW sx_NEVER sx_NESTED sx_MANDATORY sx_NOT_SUPPORTED sx_SUPPORTS))]))
    refine Done.step (fun t k => XS.icmpNo X9.here hx rfl (hb hby at_21) rfl (teq (own_eq3 p1 sx_REQUIRED sx_REQUIRES_NEW sx_NEVER sx_NESTED sx_MANDATORY sx_NOT_SUPPORTED sx_SUPPORTS nx01 nx02 nx03 nx04 nx05 nx06 nx12 nx13 nx14 nx15 nx16 nx23 nx24 nx25 nx26 nx34 nx35 nx36 nx45 nx46 nx56 k0 k1 k2 k3)).2 k) ?_
    show Done p e below s _ _ _ (T9.setTop (mkF m 24 #[.val (.int p1), .val (.int ((p1 &&& (2147483647 : Int32)) % (7 : Int32))), .val (.ref sx_REQUIRES_NEW)] []))
    refine Done.step (fun t k => XS.iconst X9.here hx rfl (hb hby at_24) k) ?_
    show Done p e below s _ _ _ (T9.setTop (mkF m 25 #[.val (.int p1), .val (.int ((p1 &&& (2147483647 : Int32)) % (7 : Int32))), .val (.ref sx_REQUIRES_NEW)] [(.int (1 : Int32))]))
    refine Done.step (fun t k => XS.goto X9.here hx rfl (pc0 := 25) (pc' := 29) rfl (hb hby at_25) (by decide) (by decide) k) ?_
    show Done p e below s _ _ _ (T9.setTop (mkF m 29 #[.val (.int p1), .val (.int ((p1 &&& (2147483647 : Int32)) % (7 : Int32))), .val (.ref sx_REQUIRES_NEW)] [(.int (1 : Int32))]))
    exact Done.narr X9 hx hlk hret (by simp) (hb hby at_29) (by decide) (by decide) ⟨rfl, N9⟩
  skip
  by_cases k4 : ((p1 &&& (2147483647 : Int32)) % (7 : Int32)) = (4 : Int32)
  · rw [show PK ((p1 &&& (2147483647 : Int32)) % (7 : Int32)) sx_REQUIRED sx_REQUIRES_NEW sx_NEVER sx_NESTED sx_MANDATORY sx_NOT_SUPPORTED sx_SUPPORTS = sx_NOT_SUPPORTED from by unfold PK; rw [if_neg k0, if_neg k1, if_neg k2, if_neg k3, if_pos k4]]
    show Done p e below s _ _ _ (T1.setTop (mkF m 12 #[.val (.int p1), .val (.int ((p1 &&& (2147483647 : Int32)) % (7 : Int32))), .unset] [(.ref sx_NOT_SUPPORTED)]))
    refine Done.step (fun t k => XS.astoreN X1.here hx rfl (hb hby at_12) rfl rfl (l' := #[.val (.int p1), .val (.int ((p1 &&& (2147483647 : Int32)) % (7 : Int32))), .val (.ref sx_NOT_SUPPORTED)]) rfl k) ?_
    show Done p e below s _ _ _ (T1.setTop (mkF m 13 #[.val (.int p1), .val (.int ((p1 &&& (2147483647 : Int32)) % (7 : Int32))), .val (.ref sx_NOT_SUPPORTED)] []))
    refine Done.step (fun t k => XS.aloadN X1.here hx rfl (hb hby at_13) rfl rfl k) ?_
    show Done p e below s _ _ _ (T1.setTop (mkF m 14 #[.val (.int p1), .val (.int ((p1 &&& (2147483647 : Int32)) % (7 : Int32))), .val (.ref sx_NOT_SUPPORTED)] [(.ref sx_NOT_SUPPORTED)]))
    obtain ⟨cq10, kq10, q10a, q10b, q10c⟩ := isOf hZ e1 E_sx_NOT_SUPPORTED
    obtain ⟨v10, _, ⟨T10, L10, k10, n10⟩, -, X10, ⟨Lc10, hQ10, l10, y10, z10⟩, st10⟩ := X1.virtualBack hx (y := (⟨"com/example/ruled_ledger/ruledledger/model/Propagation", "runsInTransaction", "()Z"⟩ : MethodName)) (z := (⟨"com/example/ruled_ledger/ruledledger/model/Propagation", "runsInTransaction", "()Z"⟩ : MethodName)) hown (mvT hZ (hw _ (List.mem_of_getElem? (i := 8) rfl))) (mvT hZ (hw _ (List.mem_of_getElem? (i := 9) rfl))) (notFace_of_selects (args := #[]) (mvT hZ (hw _ (List.mem_of_getElem? (i := 11) rfl)))) (mvT hZ (hw _ (List.mem_of_getElem? (i := 11) rfl))) (mvT hZ (hw _ (List.mem_of_getElem? (i := 10) rfl))) (by decide) (backOf (W := 0) (rm2 l Z a0 hw [] sx_NOT_SUPPORTED sx_REQUIRED sx_REQUIRES_NEW sx_NEVER sx_NESTED sx_MANDATORY sx_NOT_SUPPORTED sx_SUPPORTS h0 n0 Z0 S_sx_REQUIRED E_sx_REQUIRED S_sx_REQUIRES_NEW E_sx_REQUIRES_NEW S_sx_NEVER E_sx_NEVER S_sx_NESTED E_sx_NESTED S_sx_MANDATORY E_sx_MANDATORY S_sx_NOT_SUPPORTED E_sx_NOT_SUPPORTED S_sx_SUPPORTS E_sx_SUPPORTS F_sx_REQUIRES_NEW_ordinal F_sx_REQUIRED_ordinal F_sx_NEVER_ordinal F_sx_NESTED_ordinal F_sx_MANDATORY_ordinal F_sx_NOT_SUPPORTED_ordinal F_sx_SUPPORTS_ordinal) hZ (hw _ (List.mem_of_getElem? (i := 12) rfl)) (hw _ (List.mem_of_getElem? (i := 6) rfl)) (by decide) (by decide)) q10a q10c (g := (mkF m 14 #[.val (.int p1), .val (.int ((p1 &&& (2147483647 : Int32)) % (7 : Int32))), .val (.ref sx_NOT_SUPPORTED)] [(.ref sx_NOT_SUPPORTED)])) rfl (by rw [hml]; rfl) (Steps.refl _) (argsL := []) (rest := []) (lenOf pd_1 rfl) rfl (by show 2 * 0 + _ ≤ _; exact Nat.le_of_eq rfl) (hb hby at_14) (fun _ _ => ⟨rfl, e1, (by decide : 0 + 0 ≤ _), (by decide : 0 + 0 ≤ _)⟩)
    dsimp only [Pt.U, Pt.locs, Pt.cells, Pt.slots] at X10 l10 y10 z10 st10 hQ10
    subst l10 y10 z10
    refine Done.far st10 ?_
    obtain ⟨rfl, N10q, e10⟩ := hQ10
    have N10 := Fr.app N1 N10q
    show Done p e below s _ _ _ (T10.setTop (mkF m 17 #[.val (.int p1), .val (.int ((p1 &&& (2147483647 : Int32)) % (7 : Int32))), .val (.ref sx_NOT_SUPPORTED)] [(.int (RT sx_NOT_SUPPORTED sx_REQUIRED sx_REQUIRES_NEW sx_NEVER sx_NESTED sx_MANDATORY sx_NOT_SUPPORTED sx_SUPPORTS))]))
    refine Done.step (fun t k => XS.iloadN X10.here hx rfl (hb hby at_17) rfl k) ?_
    show Done p e below s _ _ _ (T10.setTop (mkF m 18 #[.val (.int p1), .val (.int ((p1 &&& (2147483647 : Int32)) % (7 : Int32))), .val (.ref sx_NOT_SUPPORTED)] [(.int ((p1 &&& (2147483647 : Int32)) % (7 : Int32))), (.int (RT sx_NOT_SUPPORTED sx_REQUIRED sx_REQUIRES_NEW sx_NEVER sx_NESTED sx_MANDATORY sx_NOT_SUPPORTED sx_SUPPORTS))]))
    obtain ⟨v11, _, ⟨T11, L11, k11, n11⟩, -, X11, ⟨Lc11, hQ11, l11, y11, z11⟩, st11⟩ := Jvm.LawKit.callS X10 hx (y := (⟨"com/example/ruled_ledger/ruledledger/model/PropagationRunsInTransactionPinLaw", "expected", "(I)Z"⟩ : MethodName)) hown (mvT hZ (hw _ (List.mem_of_getElem? (i := 14) rfl))) (mvT hZ (hw _ (List.mem_of_getElem? (i := 15) rfl))) (mvT hZ (hw _ (List.mem_of_getElem? (i := 3) rfl))) (mvT hZ (hw _ (List.mem_of_getElem? (i := 16) rfl))) (by decide) (backOf (W := 1) (rm3 l Z a0 hw [] ((p1 &&& (2147483647 : Int32)) % (7 : Int32)) h0 n0 Z0 ) hZ (hw _ (List.mem_of_getElem? (i := 16) rfl)) (hw _ (List.mem_of_getElem? (i := 3) rfl)) (by decide) (by decide)) (g := (mkF m 18 #[.val (.int p1), .val (.int ((p1 &&& (2147483647 : Int32)) % (7 : Int32))), .val (.ref sx_NOT_SUPPORTED)] [(.int ((p1 &&& (2147483647 : Int32)) % (7 : Int32))), (.int (RT sx_NOT_SUPPORTED sx_REQUIRED sx_REQUIRES_NEW sx_NEVER sx_NESTED sx_MANDATORY sx_NOT_SUPPORTED sx_SUPPORTS))])) rfl (by rw [hml]; rfl) (argsL := [(.int ((p1 &&& (2147483647 : Int32)) % (7 : Int32)))]) (rest := [(.int (RT sx_NOT_SUPPORTED sx_REQUIRED sx_REQUIRES_NEW sx_NEVER sx_NESTED sx_MANDATORY sx_NOT_SUPPORTED sx_SUPPORTS))]) (lenOf pd_2 rfl) rfl (by show 2 * 0 + _ ≤ _; exact Nat.le_of_eq rfl) (hb hby at_18) (fun _ _ => ⟨rfl, e10, (by decide : 0 + 0 ≤ _), (by decide : 0 + 0 ≤ _)⟩)
    dsimp only [Pt.U, Pt.locs, Pt.cells, Pt.slots] at X11 l11 y11 z11 st11 hQ11
    subst l11 y11 z11
    refine Done.step st11 ?_
    obtain ⟨rfl, N11q, e11⟩ := hQ11
    have N11 := Fr.app N10 N11q
    show Done p e below s _ _ _ (T11.setTop (mkF m 21 #[.val (.int p1), .val (.int ((p1 &&& (2147483647 : Int32)) % (7 : Int32))), .val (.ref sx_NOT_SUPPORTED)] [(.int (F3 ((p1 &&& (2147483647 : Int32)) % (7 : Int32)))), (.int (RT sx_NOT_SUPPORTED sx_REQUIRED sx_REQUIRES_NEW sx_NEVER sx_NESTED sx_MANDATORY sx_NOT_SUPPORTED sx_SUPPORTS))]))
    refine Done.step (fun t k => XS.icmpNo X11.here hx rfl (hb hby at_21) rfl (teq (own_eq4 p1 sx_REQUIRED sx_REQUIRES_NEW sx_NEVER sx_NESTED sx_MANDATORY sx_NOT_SUPPORTED sx_SUPPORTS nx01 nx02 nx03 nx04 nx05 nx06 nx12 nx13 nx14 nx15 nx16 nx23 nx24 nx25 nx26 nx34 nx35 nx36 nx45 nx46 nx56 k0 k1 k2 k3 k4)).2 k) ?_
    show Done p e below s _ _ _ (T11.setTop (mkF m 24 #[.val (.int p1), .val (.int ((p1 &&& (2147483647 : Int32)) % (7 : Int32))), .val (.ref sx_NOT_SUPPORTED)] []))
    refine Done.step (fun t k => XS.iconst X11.here hx rfl (hb hby at_24) k) ?_
    show Done p e below s _ _ _ (T11.setTop (mkF m 25 #[.val (.int p1), .val (.int ((p1 &&& (2147483647 : Int32)) % (7 : Int32))), .val (.ref sx_NOT_SUPPORTED)] [(.int (1 : Int32))]))
    refine Done.step (fun t k => XS.goto X11.here hx rfl (pc0 := 25) (pc' := 29) rfl (hb hby at_25) (by decide) (by decide) k) ?_
    show Done p e below s _ _ _ (T11.setTop (mkF m 29 #[.val (.int p1), .val (.int ((p1 &&& (2147483647 : Int32)) % (7 : Int32))), .val (.ref sx_NOT_SUPPORTED)] [(.int (1 : Int32))]))
    exact Done.narr X11 hx hlk hret (by simp) (hb hby at_29) (by decide) (by decide) ⟨rfl, N11⟩
  skip
  by_cases k5 : ((p1 &&& (2147483647 : Int32)) % (7 : Int32)) = (5 : Int32)
  · rw [show PK ((p1 &&& (2147483647 : Int32)) % (7 : Int32)) sx_REQUIRED sx_REQUIRES_NEW sx_NEVER sx_NESTED sx_MANDATORY sx_NOT_SUPPORTED sx_SUPPORTS = sx_NEVER from by unfold PK; rw [if_neg k0, if_neg k1, if_neg k2, if_neg k3, if_neg k4, if_pos k5]]
    show Done p e below s _ _ _ (T1.setTop (mkF m 12 #[.val (.int p1), .val (.int ((p1 &&& (2147483647 : Int32)) % (7 : Int32))), .unset] [(.ref sx_NEVER)]))
    refine Done.step (fun t k => XS.astoreN X1.here hx rfl (hb hby at_12) rfl rfl (l' := #[.val (.int p1), .val (.int ((p1 &&& (2147483647 : Int32)) % (7 : Int32))), .val (.ref sx_NEVER)]) rfl k) ?_
    show Done p e below s _ _ _ (T1.setTop (mkF m 13 #[.val (.int p1), .val (.int ((p1 &&& (2147483647 : Int32)) % (7 : Int32))), .val (.ref sx_NEVER)] []))
    refine Done.step (fun t k => XS.aloadN X1.here hx rfl (hb hby at_13) rfl rfl k) ?_
    show Done p e below s _ _ _ (T1.setTop (mkF m 14 #[.val (.int p1), .val (.int ((p1 &&& (2147483647 : Int32)) % (7 : Int32))), .val (.ref sx_NEVER)] [(.ref sx_NEVER)]))
    obtain ⟨cq12, kq12, q12a, q12b, q12c⟩ := isOf hZ e1 E_sx_NEVER
    obtain ⟨v12, _, ⟨T12, L12, k12, n12⟩, -, X12, ⟨Lc12, hQ12, l12, y12, z12⟩, st12⟩ := X1.virtualBack hx (y := (⟨"com/example/ruled_ledger/ruledledger/model/Propagation", "runsInTransaction", "()Z"⟩ : MethodName)) (z := (⟨"com/example/ruled_ledger/ruledledger/model/Propagation", "runsInTransaction", "()Z"⟩ : MethodName)) hown (mvT hZ (hw _ (List.mem_of_getElem? (i := 8) rfl))) (mvT hZ (hw _ (List.mem_of_getElem? (i := 9) rfl))) (notFace_of_selects (args := #[]) (mvT hZ (hw _ (List.mem_of_getElem? (i := 11) rfl)))) (mvT hZ (hw _ (List.mem_of_getElem? (i := 11) rfl))) (mvT hZ (hw _ (List.mem_of_getElem? (i := 10) rfl))) (by decide) (backOf (W := 0) (rm2 l Z a0 hw [] sx_NEVER sx_REQUIRED sx_REQUIRES_NEW sx_NEVER sx_NESTED sx_MANDATORY sx_NOT_SUPPORTED sx_SUPPORTS h0 n0 Z0 S_sx_REQUIRED E_sx_REQUIRED S_sx_REQUIRES_NEW E_sx_REQUIRES_NEW S_sx_NEVER E_sx_NEVER S_sx_NESTED E_sx_NESTED S_sx_MANDATORY E_sx_MANDATORY S_sx_NOT_SUPPORTED E_sx_NOT_SUPPORTED S_sx_SUPPORTS E_sx_SUPPORTS F_sx_REQUIRES_NEW_ordinal F_sx_REQUIRED_ordinal F_sx_NEVER_ordinal F_sx_NESTED_ordinal F_sx_MANDATORY_ordinal F_sx_NOT_SUPPORTED_ordinal F_sx_SUPPORTS_ordinal) hZ (hw _ (List.mem_of_getElem? (i := 12) rfl)) (hw _ (List.mem_of_getElem? (i := 6) rfl)) (by decide) (by decide)) q12a q12c (g := (mkF m 14 #[.val (.int p1), .val (.int ((p1 &&& (2147483647 : Int32)) % (7 : Int32))), .val (.ref sx_NEVER)] [(.ref sx_NEVER)])) rfl (by rw [hml]; rfl) (Steps.refl _) (argsL := []) (rest := []) (lenOf pd_1 rfl) rfl (by show 2 * 0 + _ ≤ _; exact Nat.le_of_eq rfl) (hb hby at_14) (fun _ _ => ⟨rfl, e1, (by decide : 0 + 0 ≤ _), (by decide : 0 + 0 ≤ _)⟩)
    dsimp only [Pt.U, Pt.locs, Pt.cells, Pt.slots] at X12 l12 y12 z12 st12 hQ12
    subst l12 y12 z12
    refine Done.far st12 ?_
    obtain ⟨rfl, N12q, e12⟩ := hQ12
    have N12 := Fr.app N1 N12q
    show Done p e below s _ _ _ (T12.setTop (mkF m 17 #[.val (.int p1), .val (.int ((p1 &&& (2147483647 : Int32)) % (7 : Int32))), .val (.ref sx_NEVER)] [(.int (RT sx_NEVER sx_REQUIRED sx_REQUIRES_NEW sx_NEVER sx_NESTED sx_MANDATORY sx_NOT_SUPPORTED sx_SUPPORTS))]))
    refine Done.step (fun t k => XS.iloadN X12.here hx rfl (hb hby at_17) rfl k) ?_
    show Done p e below s _ _ _ (T12.setTop (mkF m 18 #[.val (.int p1), .val (.int ((p1 &&& (2147483647 : Int32)) % (7 : Int32))), .val (.ref sx_NEVER)] [(.int ((p1 &&& (2147483647 : Int32)) % (7 : Int32))), (.int (RT sx_NEVER sx_REQUIRED sx_REQUIRES_NEW sx_NEVER sx_NESTED sx_MANDATORY sx_NOT_SUPPORTED sx_SUPPORTS))]))
    obtain ⟨v13, _, ⟨T13, L13, k13, n13⟩, -, X13, ⟨Lc13, hQ13, l13, y13, z13⟩, st13⟩ := Jvm.LawKit.callS X12 hx (y := (⟨"com/example/ruled_ledger/ruledledger/model/PropagationRunsInTransactionPinLaw", "expected", "(I)Z"⟩ : MethodName)) hown (mvT hZ (hw _ (List.mem_of_getElem? (i := 14) rfl))) (mvT hZ (hw _ (List.mem_of_getElem? (i := 15) rfl))) (mvT hZ (hw _ (List.mem_of_getElem? (i := 3) rfl))) (mvT hZ (hw _ (List.mem_of_getElem? (i := 16) rfl))) (by decide) (backOf (W := 1) (rm3 l Z a0 hw [] ((p1 &&& (2147483647 : Int32)) % (7 : Int32)) h0 n0 Z0 ) hZ (hw _ (List.mem_of_getElem? (i := 16) rfl)) (hw _ (List.mem_of_getElem? (i := 3) rfl)) (by decide) (by decide)) (g := (mkF m 18 #[.val (.int p1), .val (.int ((p1 &&& (2147483647 : Int32)) % (7 : Int32))), .val (.ref sx_NEVER)] [(.int ((p1 &&& (2147483647 : Int32)) % (7 : Int32))), (.int (RT sx_NEVER sx_REQUIRED sx_REQUIRES_NEW sx_NEVER sx_NESTED sx_MANDATORY sx_NOT_SUPPORTED sx_SUPPORTS))])) rfl (by rw [hml]; rfl) (argsL := [(.int ((p1 &&& (2147483647 : Int32)) % (7 : Int32)))]) (rest := [(.int (RT sx_NEVER sx_REQUIRED sx_REQUIRES_NEW sx_NEVER sx_NESTED sx_MANDATORY sx_NOT_SUPPORTED sx_SUPPORTS))]) (lenOf pd_2 rfl) rfl (by show 2 * 0 + _ ≤ _; exact Nat.le_of_eq rfl) (hb hby at_18) (fun _ _ => ⟨rfl, e12, (by decide : 0 + 0 ≤ _), (by decide : 0 + 0 ≤ _)⟩)
    dsimp only [Pt.U, Pt.locs, Pt.cells, Pt.slots] at X13 l13 y13 z13 st13 hQ13
    subst l13 y13 z13
    refine Done.step st13 ?_
    obtain ⟨rfl, N13q, e13⟩ := hQ13
    have N13 := Fr.app N12 N13q
    show Done p e below s _ _ _ (T13.setTop (mkF m 21 #[.val (.int p1), .val (.int ((p1 &&& (2147483647 : Int32)) % (7 : Int32))), .val (.ref sx_NEVER)] [(.int (F3 ((p1 &&& (2147483647 : Int32)) % (7 : Int32)))), (.int (RT sx_NEVER sx_REQUIRED sx_REQUIRES_NEW sx_NEVER sx_NESTED sx_MANDATORY sx_NOT_SUPPORTED sx_SUPPORTS))]))
    refine Done.step (fun t k => XS.icmpNo X13.here hx rfl (hb hby at_21) rfl (teq (own_eq5 p1 sx_REQUIRED sx_REQUIRES_NEW sx_NEVER sx_NESTED sx_MANDATORY sx_NOT_SUPPORTED sx_SUPPORTS nx01 nx02 nx03 nx04 nx05 nx06 nx12 nx13 nx14 nx15 nx16 nx23 nx24 nx25 nx26 nx34 nx35 nx36 nx45 nx46 nx56 k0 k1 k2 k3 k4 k5)).2 k) ?_
    show Done p e below s _ _ _ (T13.setTop (mkF m 24 #[.val (.int p1), .val (.int ((p1 &&& (2147483647 : Int32)) % (7 : Int32))), .val (.ref sx_NEVER)] []))
    refine Done.step (fun t k => XS.iconst X13.here hx rfl (hb hby at_24) k) ?_
    show Done p e below s _ _ _ (T13.setTop (mkF m 25 #[.val (.int p1), .val (.int ((p1 &&& (2147483647 : Int32)) % (7 : Int32))), .val (.ref sx_NEVER)] [(.int (1 : Int32))]))
    refine Done.step (fun t k => XS.goto X13.here hx rfl (pc0 := 25) (pc' := 29) rfl (hb hby at_25) (by decide) (by decide) k) ?_
    show Done p e below s _ _ _ (T13.setTop (mkF m 29 #[.val (.int p1), .val (.int ((p1 &&& (2147483647 : Int32)) % (7 : Int32))), .val (.ref sx_NEVER)] [(.int (1 : Int32))]))
    exact Done.narr X13 hx hlk hret (by simp) (hb hby at_29) (by decide) (by decide) ⟨rfl, N13⟩
  skip
  rw [show PK ((p1 &&& (2147483647 : Int32)) % (7 : Int32)) sx_REQUIRED sx_REQUIRES_NEW sx_NEVER sx_NESTED sx_MANDATORY sx_NOT_SUPPORTED sx_SUPPORTS = sx_NESTED from by unfold PK; rw [if_neg k0, if_neg k1, if_neg k2, if_neg k3, if_neg k4, if_neg k5]]
  show Done p e below s _ _ _ (T1.setTop (mkF m 12 #[.val (.int p1), .val (.int ((p1 &&& (2147483647 : Int32)) % (7 : Int32))), .unset] [(.ref sx_NESTED)]))
  refine Done.step (fun t k => XS.astoreN X1.here hx rfl (hb hby at_12) rfl rfl (l' := #[.val (.int p1), .val (.int ((p1 &&& (2147483647 : Int32)) % (7 : Int32))), .val (.ref sx_NESTED)]) rfl k) ?_
  show Done p e below s _ _ _ (T1.setTop (mkF m 13 #[.val (.int p1), .val (.int ((p1 &&& (2147483647 : Int32)) % (7 : Int32))), .val (.ref sx_NESTED)] []))
  refine Done.step (fun t k => XS.aloadN X1.here hx rfl (hb hby at_13) rfl rfl k) ?_
  show Done p e below s _ _ _ (T1.setTop (mkF m 14 #[.val (.int p1), .val (.int ((p1 &&& (2147483647 : Int32)) % (7 : Int32))), .val (.ref sx_NESTED)] [(.ref sx_NESTED)]))
  obtain ⟨cq14, kq14, q14a, q14b, q14c⟩ := isOf hZ e1 E_sx_NESTED
  obtain ⟨v14, _, ⟨T14, L14, k14, n14⟩, -, X14, ⟨Lc14, hQ14, l14, y14, z14⟩, st14⟩ := X1.virtualBack hx (y := (⟨"com/example/ruled_ledger/ruledledger/model/Propagation", "runsInTransaction", "()Z"⟩ : MethodName)) (z := (⟨"com/example/ruled_ledger/ruledledger/model/Propagation", "runsInTransaction", "()Z"⟩ : MethodName)) hown (mvT hZ (hw _ (List.mem_of_getElem? (i := 8) rfl))) (mvT hZ (hw _ (List.mem_of_getElem? (i := 9) rfl))) (notFace_of_selects (args := #[]) (mvT hZ (hw _ (List.mem_of_getElem? (i := 11) rfl)))) (mvT hZ (hw _ (List.mem_of_getElem? (i := 11) rfl))) (mvT hZ (hw _ (List.mem_of_getElem? (i := 10) rfl))) (by decide) (backOf (W := 0) (rm2 l Z a0 hw [] sx_NESTED sx_REQUIRED sx_REQUIRES_NEW sx_NEVER sx_NESTED sx_MANDATORY sx_NOT_SUPPORTED sx_SUPPORTS h0 n0 Z0 S_sx_REQUIRED E_sx_REQUIRED S_sx_REQUIRES_NEW E_sx_REQUIRES_NEW S_sx_NEVER E_sx_NEVER S_sx_NESTED E_sx_NESTED S_sx_MANDATORY E_sx_MANDATORY S_sx_NOT_SUPPORTED E_sx_NOT_SUPPORTED S_sx_SUPPORTS E_sx_SUPPORTS F_sx_REQUIRES_NEW_ordinal F_sx_REQUIRED_ordinal F_sx_NEVER_ordinal F_sx_NESTED_ordinal F_sx_MANDATORY_ordinal F_sx_NOT_SUPPORTED_ordinal F_sx_SUPPORTS_ordinal) hZ (hw _ (List.mem_of_getElem? (i := 12) rfl)) (hw _ (List.mem_of_getElem? (i := 6) rfl)) (by decide) (by decide)) q14a q14c (g := (mkF m 14 #[.val (.int p1), .val (.int ((p1 &&& (2147483647 : Int32)) % (7 : Int32))), .val (.ref sx_NESTED)] [(.ref sx_NESTED)])) rfl (by rw [hml]; rfl) (Steps.refl _) (argsL := []) (rest := []) (lenOf pd_1 rfl) rfl (by show 2 * 0 + _ ≤ _; exact Nat.le_of_eq rfl) (hb hby at_14) (fun _ _ => ⟨rfl, e1, (by decide : 0 + 0 ≤ _), (by decide : 0 + 0 ≤ _)⟩)
  dsimp only [Pt.U, Pt.locs, Pt.cells, Pt.slots] at X14 l14 y14 z14 st14 hQ14
  subst l14 y14 z14
  refine Done.far st14 ?_
  obtain ⟨rfl, N14q, e14⟩ := hQ14
  have N14 := Fr.app N1 N14q
  show Done p e below s _ _ _ (T14.setTop (mkF m 17 #[.val (.int p1), .val (.int ((p1 &&& (2147483647 : Int32)) % (7 : Int32))), .val (.ref sx_NESTED)] [(.int (RT sx_NESTED sx_REQUIRED sx_REQUIRES_NEW sx_NEVER sx_NESTED sx_MANDATORY sx_NOT_SUPPORTED sx_SUPPORTS))]))
  refine Done.step (fun t k => XS.iloadN X14.here hx rfl (hb hby at_17) rfl k) ?_
  show Done p e below s _ _ _ (T14.setTop (mkF m 18 #[.val (.int p1), .val (.int ((p1 &&& (2147483647 : Int32)) % (7 : Int32))), .val (.ref sx_NESTED)] [(.int ((p1 &&& (2147483647 : Int32)) % (7 : Int32))), (.int (RT sx_NESTED sx_REQUIRED sx_REQUIRES_NEW sx_NEVER sx_NESTED sx_MANDATORY sx_NOT_SUPPORTED sx_SUPPORTS))]))
  obtain ⟨v15, _, ⟨T15, L15, k15, n15⟩, -, X15, ⟨Lc15, hQ15, l15, y15, z15⟩, st15⟩ := Jvm.LawKit.callS X14 hx (y := (⟨"com/example/ruled_ledger/ruledledger/model/PropagationRunsInTransactionPinLaw", "expected", "(I)Z"⟩ : MethodName)) hown (mvT hZ (hw _ (List.mem_of_getElem? (i := 14) rfl))) (mvT hZ (hw _ (List.mem_of_getElem? (i := 15) rfl))) (mvT hZ (hw _ (List.mem_of_getElem? (i := 3) rfl))) (mvT hZ (hw _ (List.mem_of_getElem? (i := 16) rfl))) (by decide) (backOf (W := 1) (rm3 l Z a0 hw [] ((p1 &&& (2147483647 : Int32)) % (7 : Int32)) h0 n0 Z0 ) hZ (hw _ (List.mem_of_getElem? (i := 16) rfl)) (hw _ (List.mem_of_getElem? (i := 3) rfl)) (by decide) (by decide)) (g := (mkF m 18 #[.val (.int p1), .val (.int ((p1 &&& (2147483647 : Int32)) % (7 : Int32))), .val (.ref sx_NESTED)] [(.int ((p1 &&& (2147483647 : Int32)) % (7 : Int32))), (.int (RT sx_NESTED sx_REQUIRED sx_REQUIRES_NEW sx_NEVER sx_NESTED sx_MANDATORY sx_NOT_SUPPORTED sx_SUPPORTS))])) rfl (by rw [hml]; rfl) (argsL := [(.int ((p1 &&& (2147483647 : Int32)) % (7 : Int32)))]) (rest := [(.int (RT sx_NESTED sx_REQUIRED sx_REQUIRES_NEW sx_NEVER sx_NESTED sx_MANDATORY sx_NOT_SUPPORTED sx_SUPPORTS))]) (lenOf pd_2 rfl) rfl (by show 2 * 0 + _ ≤ _; exact Nat.le_of_eq rfl) (hb hby at_18) (fun _ _ => ⟨rfl, e14, (by decide : 0 + 0 ≤ _), (by decide : 0 + 0 ≤ _)⟩)
  dsimp only [Pt.U, Pt.locs, Pt.cells, Pt.slots] at X15 l15 y15 z15 st15 hQ15
  subst l15 y15 z15
  refine Done.step st15 ?_
  obtain ⟨rfl, N15q, e15⟩ := hQ15
  have N15 := Fr.app N14 N15q
  show Done p e below s _ _ _ (T15.setTop (mkF m 21 #[.val (.int p1), .val (.int ((p1 &&& (2147483647 : Int32)) % (7 : Int32))), .val (.ref sx_NESTED)] [(.int (F3 ((p1 &&& (2147483647 : Int32)) % (7 : Int32)))), (.int (RT sx_NESTED sx_REQUIRED sx_REQUIRES_NEW sx_NEVER sx_NESTED sx_MANDATORY sx_NOT_SUPPORTED sx_SUPPORTS))]))
  refine Done.step (fun t k => XS.icmpNo X15.here hx rfl (hb hby at_21) rfl (teq (own_eq6 p1 sx_REQUIRED sx_REQUIRES_NEW sx_NEVER sx_NESTED sx_MANDATORY sx_NOT_SUPPORTED sx_SUPPORTS nx01 nx02 nx03 nx04 nx05 nx06 nx12 nx13 nx14 nx15 nx16 nx23 nx24 nx25 nx26 nx34 nx35 nx36 nx45 nx46 nx56 k0 k1 k2 k3 k4 k5)).2 k) ?_
  show Done p e below s _ _ _ (T15.setTop (mkF m 24 #[.val (.int p1), .val (.int ((p1 &&& (2147483647 : Int32)) % (7 : Int32))), .val (.ref sx_NESTED)] []))
  refine Done.step (fun t k => XS.iconst X15.here hx rfl (hb hby at_24) k) ?_
  show Done p e below s _ _ _ (T15.setTop (mkF m 25 #[.val (.int p1), .val (.int ((p1 &&& (2147483647 : Int32)) % (7 : Int32))), .val (.ref sx_NESTED)] [(.int (1 : Int32))]))
  refine Done.step (fun t k => XS.goto X15.here hx rfl (pc0 := 25) (pc' := 29) rfl (hb hby at_25) (by decide) (by decide) k) ?_
  show Done p e below s _ _ _ (T15.setTop (mkF m 29 #[.val (.int p1), .val (.int ((p1 &&& (2147483647 : Int32)) % (7 : Int32))), .val (.ref sx_NESTED)] [(.int (1 : Int32))]))
  exact Done.narr X15 hx hlk hret (by simp) (hb hby at_29) (by decide) (by decide) ⟨rfl, N15⟩
set_option maxRecDepth 65536 in
set_option maxHeartbeats 40000000 in
theorem comes_1 {Post : Tables → Env → Array Value → State → Outcome → State → Prop} (hpost : ∀ tb e args s v u, (limb_1_1.after args s (.returned v) u = true ∧ limb_1_2.after args s (.returned v) u = true ∧ True) → FrameEnd s (.returned v) u (Jvm.fieldLocs frame_1_writes args s ++ Jvm.arrayLocs frame_1_arrays args s ++ Jvm.staticLocs frame_1_statics s) 0 0 → Post tb e args s (.returned v) u) :
    ArmFor flags0 classFile x code maxLocals ret World_1 tables_1 room_1 Calls_1 rest_1 Pre_1 Post := by
  intro l hfl _ _ p e ha hc hk s m args below hf hA hF happ hP
  obtain ⟨hcalls, hrest, hpre⟩ := hP
  obtain ⟨-, -, -, hnamed, -, -, -, hat⟩ := (Spec.applies_iff hf).mp happ
  obtain ⟨hg, hn⟩ := and_e (Cond.before_iff.mp (show (Jvm.Cond.and given_1 narrow_1).before args s = true from hpre))
  obtain ⟨hcnt, g0⟩ := and_e hg
  have u0 := g0
  obtain ⟨w0, rfl⟩ : ∃ w0 : Value, args = #[w0] := by
    have hs : args.size = 1 := by simpa [Cond.value, given_1] using hcnt
    obtain ⟨L⟩ := args
    match L, hs with
    | [w0], _ => exact ⟨w0, rfl⟩
  have hw := fun d (hd : d ∈ tables_1) => atoms_spec (ws := Jvm.Cond.code x code maxLocals ret :: tables_1) hat d (List.mem_cons_of_mem _ hd)
  have hfit : Fit s := fun {y c} hc i hi => by
    obtain ⟨ha, rfl⟩ := Array.getElem?_eq_some_iff.mp hc
    have q := List.all_eq_true.mp ((Array.all_eq_true_iff_forall_mem.mp hF) _ (Array.getElem_mem ha)) i (List.mem_range.mpr hi)
    simpa [Array.getElem?_eq_getElem hi] using q
  obtain ⟨i0, ei0⟩ := is_v u0
  obtain rfl : w0 = (.int i0) := Option.some.inj ei0
  obtain ⟨nn0, nr0⟩ := and_e hn
  obtain ⟨nn1, nr1⟩ := and_e nr0
  obtain ⟨nn2, nr2⟩ := and_e nr1
  obtain ⟨nn3, nr3⟩ := and_e nr2
  obtain ⟨nn4, nr4⟩ := and_e nr3
  obtain ⟨nn5, nr5⟩ := and_e nr4
  obtain ⟨nn6, nr6⟩ := and_e nr5
  obtain ⟨nn7, nr7⟩ := and_e nr6
  obtain ⟨nn8, nr8⟩ := and_e nr7
  obtain ⟨nn9, nr9⟩ := and_e nr8
  obtain ⟨nn10, nr10⟩ := and_e nr9
  obtain ⟨nn11, nr11⟩ := and_e nr10
  obtain ⟨nn12, nr12⟩ := and_e nr11
  have nn13 := nr12
  obtain ⟨sx_REQUIRED, ev_sx_REQUIRED⟩ := exa_v nn0
  obtain ⟨sx_REQUIRES_NEW, ev_sx_REQUIRES_NEW⟩ := exa_v nn1
  obtain ⟨sx_NEVER, ev_sx_NEVER⟩ := exa_v nn4
  obtain ⟨sx_NESTED, ev_sx_NESTED⟩ := exa_v nn6
  obtain ⟨sx_MANDATORY, ev_sx_MANDATORY⟩ := exa_v nn8
  obtain ⟨sx_NOT_SUPPORTED, ev_sx_NOT_SUPPORTED⟩ := exa_v nn10
  obtain ⟨sx_SUPPORTS, ev_sx_SUPPORTS⟩ := exa_v nn12
  obtain ⟨n, o, h1, h2, h3, _, L, rfl, ⟨rfl, N⟩, hq⟩ := rm0 l s _ hw tables_1 i0 sx_REQUIRED sx_REQUIRES_NEW sx_NEVER sx_NESTED sx_MANDATORY sx_NOT_SUPPORTED sx_SUPPORTS s.heap s.heap.size (Nat.le_refl _) (Sta.start ev_sx_REQUIRED (Or.inr ⟨(hw _ (List.mem_of_getElem? (i := 6) rfl)), (hw _ (List.mem_of_getElem? (i := 7) rfl))⟩)) (Exa.start ev_sx_REQUIRED nn0) (Sta.start ev_sx_REQUIRES_NEW (Or.inr ⟨(hw _ (List.mem_of_getElem? (i := 6) rfl)), (hw _ (List.mem_of_getElem? (i := 18) rfl))⟩)) (Exa.start ev_sx_REQUIRES_NEW nn1) (Sta.start ev_sx_NEVER (Or.inr ⟨(hw _ (List.mem_of_getElem? (i := 6) rfl)), (hw _ (List.mem_of_getElem? (i := 21) rfl))⟩)) (Exa.start ev_sx_NEVER nn4) (Sta.start ev_sx_NESTED (Or.inr ⟨(hw _ (List.mem_of_getElem? (i := 6) rfl)), (hw _ (List.mem_of_getElem? (i := 23) rfl))⟩)) (Exa.start ev_sx_NESTED nn6) (Sta.start ev_sx_MANDATORY (Or.inr ⟨(hw _ (List.mem_of_getElem? (i := 6) rfl)), (hw _ (List.mem_of_getElem? (i := 25) rfl))⟩)) (Exa.start ev_sx_MANDATORY nn8) (Sta.start ev_sx_NOT_SUPPORTED (Or.inr ⟨(hw _ (List.mem_of_getElem? (i := 6) rfl)), (hw _ (List.mem_of_getElem? (i := 28) rfl))⟩)) (Exa.start ev_sx_NOT_SUPPORTED nn10) (Sta.start ev_sx_SUPPORTS (Or.inr ⟨(hw _ (List.mem_of_getElem? (i := 6) rfl)), (hw _ (List.mem_of_getElem? (i := 31) rfl))⟩)) (Exa.start ev_sx_SUPPORTS nn12) (fld_int nn2 ev_sx_REQUIRES_NEW) (fld_int nn3 ev_sx_REQUIRED) (fld_int nn5 ev_sx_NEVER) (fld_int nn7 ev_sx_NESTED) (fld_int nn9 ev_sx_MANDATORY) (fld_int nn11 ev_sx_NOT_SUPPORTED) (fld_int nn13 ev_sx_SUPPORTS) p e ha hc hk s m _ below hf ((Spec.applies_iff_loose hf).mp happ).1 ⟨rfl, State.Warmed39.refl s, rfl⟩ trivial
  refine ⟨n, _, h1, h2, h3, hpost _ _ _ _ _ _ ⟨Cond.after_iff.mpr rfl, Cond.after_iff.mpr (eq_i res_at (Term.int_eval (1)) rfl), trivial⟩ ⟨hq.1, hq.2.1, (hq.2.2.sift fun y hy => Or.inr (N y hy)).mono (by decide) (by decide)⟩⟩
theorem main_1_1 : Claimed_1_1 := comes_1 fun _ _ _ _ _ _ h hF => ⟨h.1, hF⟩
theorem main_1_2 : Claimed_1_2 := comes_1 fun _ _ _ _ _ _ h hF => ⟨h.2.1, hF⟩
end Jvm.Pilot.@@N@@
namespace Jvm.Pilot.@@N@@
open Jvm Jvm.ClassFile Sem Op Lib Jvm.Free Jvm.Stand Jvm.Pilot.@@N@@.Jvm.D
/-! MADE BY PROGRAM (witnessworld.py) out of the Statement's table words and the real class files: 12 classes; the members and pool entries that the words name. The judged class is class 1, her method 3. -/
namespace start1
open Jvm.ClassFile
def u (s : String) : CpInfo := .utf8 (stringToUtf16 s)
/-- a pool by its gaps: so many unusable entries, then the entry; so many at the end -/
def gap : Nat → List CpInfo → List CpInfo
  | 0, r => r
  | n + 1, r => .unusable :: gap n r
def poolList (es : List (Nat × CpInfo)) (last : Nat) : List CpInfo := es.foldr (fun e r => gap e.1 (e.2 :: r)) (gap last [])
def pool (es : List (Nat × CpInfo)) (last : Nat) : Array CpInfo := ⟨poolList es last⟩
def fileOf (pool : Array CpInfo) (this : Nat) (attrs : Array Attribute := #[]) (ms : Array MethodInfo := #[]) (fl : Nat := 33) (sup : Nat := 0) (ifs : Array Nat := #[]) (fds : Array FieldInfo := #[]) : ClassFile where
  minorVersion := 0
  majorVersion := 65
  constantPool := pool
  accessFlags := fl
  thisClass := this
  superClass := sup
  interfaces := ifs
  fields := fds
  methods := ms
  attributes := attrs
def plain (name : String) (sup : Option ClassId) : Class where
  name := name
  kind := .ordinary
  loader := none
  accessFlags := 33
  super := sup
  interfaces := #[]
  cf := none
  fields := #[]
  methods := #[]
  instanceTypes := #[]
  staticTypes := #[]
  resolved := #[]
  callSites := []
  init := .initialized
  statics := none
  mirror := none

def pool0 : Array CpInfo := pool [(5, u "<init>"), (0, u "()V"), (1, .class_ 10), (1, u "java/lang/Object")] 113

def k0m0 : Method := { name := "<init>", desc := "()V", sig := { parameters := [], returnType := none }, accessFlags := 1, code := none }
/-- java/lang/Object -/
def k0 : Class := { plain "java/lang/Object" none with
  accessFlags := 33
  interfaces := #[]
  cf := some (fileOf pool0 8 #[] #[{ accessFlags := 1, nameIndex := 5, descriptorIndex := 6, attributes := #[] }] 33 0 #[] #[])
  fields := #[]
  methods := #[k0m0]
  instanceTypes := #[]
  staticTypes := #[]
  resolved := Array.replicate 124 none
  statics := none }

def pool1 : Array CpInfo := pool [(2, .class_ 4), (1, u "java/lang/Object"), (0, u "<init>"), (0, u "()V"), (0, .fieldref 8 9), (0, .class_ 10), (0, .nameAndType 11 12), (0, u "com/example/ruled_ledger/ruledledger/model/Propagation"), (0, u "REQUIRED"), (0, u "Lcom/example/ruled_ledger/ruledledger/model/Propagation;"), (0, .fieldref 8 14), (0, .nameAndType 15 12), (0, u "SUPPORTS"), (0, .fieldref 8 17), (0, .nameAndType 18 12), (0, u "MANDATORY"), (0, .fieldref 8 20), (0, .nameAndType 21 12), (0, u "REQUIRES_NEW"), (0, .fieldref 8 23), (0, .nameAndType 24 12), (0, u "NOT_SUPPORTED"), (0, .fieldref 8 26), (0, .nameAndType 27 12), (0, u "NEVER"), (0, .fieldref 8 29), (0, .nameAndType 30 12), (0, u "NESTED"), (0, .integer 2147483647), (0, .methodref 33 34), (0, .class_ 35), (0, .nameAndType 36 37), (0, u "com/example/ruled_ledger/ruledledger/model/PropagationRunsInTransactionPinLaw"), (0, u "pick"), (0, u "(I)Lcom/example/ruled_ledger/ruledledger/model/Propagation;"), (0, .methodref 8 39), (0, .nameAndType 40 41), (0, u "runsInTransaction"), (0, u "()Z"), (0, .methodref 33 43), (0, .nameAndType 44 45), (0, u "expected"), (0, u "(I)Z"), (3, u "law")] 2

def k1m0 : Method := { name := "<init>", desc := "()V", sig := { parameters := [], returnType := none }, accessFlags := 2, code := none }
def k1c1 : Code := { maxStack := 2, maxLocals := 1, code := method_2_code, exceptionTable := #[], attributes := #[] }
def k1m1 : Method := { name := "pick", desc := "(I)Lcom/example/ruled_ledger/ruledledger/model/Propagation;", sig := { parameters := [.int], returnType := some (.object "com/example/ruled_ledger/ruledledger/model/Propagation") }, accessFlags := 10, code := some k1c1 }
def k1c2 : Code := { maxStack := 2, maxLocals := 1, code := method_3_code, exceptionTable := #[], attributes := #[] }
def k1m2 : Method := { name := "expected", desc := "(I)Z", sig := { parameters := [.int], returnType := some .boolean }, accessFlags := 10, code := some k1c2 }
def k1c3 : Code := { maxStack := 2, maxLocals := 3, code := code, exceptionTable := #[], attributes := #[] }
def k1m3 : Method := { name := "law", desc := "(I)Z", sig := { parameters := [.int], returnType := some .boolean }, accessFlags := 9, code := some k1c3 }
/-- com/example/ruled_ledger/ruledledger/model/PropagationRunsInTransactionPinLaw -/
def k1 : Class := { plain "com/example/ruled_ledger/ruledledger/model/PropagationRunsInTransactionPinLaw" (some 0) with
  accessFlags := 49
  interfaces := #[]
  cf := some (fileOf pool1 33 #[] #[{ accessFlags := 2, nameIndex := 5, descriptorIndex := 6, attributes := #[] }, { accessFlags := 10, nameIndex := 36, descriptorIndex := 37, attributes := #[] }, { accessFlags := 10, nameIndex := 44, descriptorIndex := 45, attributes := #[] }, { accessFlags := 9, nameIndex := 49, descriptorIndex := 45, attributes := #[] }] 49 2 #[] #[])
  fields := #[]
  methods := #[k1m0, k1m1, k1m2, k1m3]
  instanceTypes := #[]
  staticTypes := #[]
  resolved := Array.replicate 52 none
  statics := none }

def pool2 : Array CpInfo := pool [(1, .class_ 2), (0, u "java/lang/constant/Constable"), (0, .class_ 4), (0, u "java/lang/Object")] 6

/-- java/lang/constant/Constable -/
def k2 : Class := { plain "java/lang/constant/Constable" (some 0) with
  accessFlags := 1537
  interfaces := #[]
  cf := some (fileOf pool2 1 #[] #[] 1537 3 #[] #[])
  fields := #[]
  methods := #[]
  instanceTypes := #[]
  staticTypes := #[]
  resolved := Array.replicate 11 none
  statics := none }

def pool3 : Array CpInfo := pool [(1, .class_ 2), (0, u "java/lang/Comparable"), (0, .class_ 4), (0, u "java/lang/Object")] 7

/-- java/lang/Comparable -/
def k3 : Class := { plain "java/lang/Comparable" (some 0) with
  accessFlags := 1537
  interfaces := #[]
  cf := some (fileOf pool3 1 #[] #[] 1537 3 #[] #[])
  fields := #[]
  methods := #[]
  instanceTypes := #[]
  staticTypes := #[]
  resolved := Array.replicate 12 none
  statics := none }

def pool4 : Array CpInfo := pool [(1, .class_ 2), (0, u "java/io/Serializable"), (0, .class_ 4), (0, u "java/lang/Object")] 2

/-- java/io/Serializable -/
def k4 : Class := { plain "java/io/Serializable" (some 0) with
  accessFlags := 1537
  interfaces := #[]
  cf := some (fileOf pool4 1 #[] #[] 1537 3 #[] #[])
  fields := #[]
  methods := #[]
  instanceTypes := #[]
  staticTypes := #[]
  resolved := Array.replicate 7 none
  statics := none }

def pool5 : Array CpInfo := pool [(2, .class_ 4), (1, u "java/lang/Enum"), (0, u "name"), (0, u "Ljava/lang/String;"), (2, u "ordinal"), (0, u "I"), (1, .class_ 14), (1, u "java/lang/Object"), (4, u "hash"), (86, .class_ 108), (1, u "java/lang/Enum$EnumDesc"), (2, .class_ 112), (0, u "java/lang/constant/Constable"), (0, .class_ 114), (0, u "java/lang/Comparable"), (0, .class_ 116), (0, u "java/io/Serializable")] 87

/-- java/lang/Enum -/
def k5 : Class := { plain "java/lang/Enum" (some 0) with
  accessFlags := 1057
  interfaces := #[2, 3, 4]
  cf := some (fileOf pool5 2 #[.nestMembers #[106]] #[] 1057 12 #[111, 113, 115] #[{ accessFlags := 18, nameIndex := 5, descriptorIndex := 6, attributes := #[] }, { accessFlags := 18, nameIndex := 9, descriptorIndex := 10, attributes := #[] }, { accessFlags := 2, nameIndex := 19, descriptorIndex := 10, attributes := #[] }])
  fields := #[{ name := "name", type := (.object "java/lang/String"), accessFlags := 18, slot := 0, constantValue := 0 }, { name := "ordinal", type := .int, accessFlags := 18, slot := 1, constantValue := 0 }, { name := "hash", type := .int, accessFlags := 2, slot := 2, constantValue := 0 }]
  methods := #[]
  instanceTypes := #[(.object "java/lang/String"), .int, .int]
  staticTypes := #[]
  resolved := Array.replicate 204 none
  statics := none }

def pool6 : Array CpInfo := pool [(1, .class_ 2), (0, u "com/example/ruled_ledger/ruledledger/model/Propagation"), (0, .fieldref 1 4), (0, .nameAndType 5 6), (0, u "REQUIRED"), (0, u "Lcom/example/ruled_ledger/ruledledger/model/Propagation;"), (2, u "SUPPORTS"), (0, .fieldref 1 11), (0, .nameAndType 12 6), (0, u "MANDATORY"), (0, .fieldref 1 14), (0, .nameAndType 15 6), (0, u "REQUIRES_NEW"), (2, u "NOT_SUPPORTED"), (2, u "NEVER"), (0, .fieldref 1 23), (0, .nameAndType 24 6), (0, u "NESTED"), (2, u "$VALUES"), (0, u "[Lcom/example/ruled_ledger/ruledledger/model/Propagation;"), (6, .class_ 37), (1, u "java/lang/Enum"), (25, u "runsInTransaction"), (0, u "()Z")] 6

def k6c0 : Code := { maxStack := 2, maxLocals := 1, code := prog_25_method_4_code, exceptionTable := #[], attributes := #[] }
def k6m0 : Method := { name := "runsInTransaction", desc := "()Z", sig := { parameters := [], returnType := some .boolean }, accessFlags := 1, code := some k6c0 }
/-- com/example/ruled_ledger/ruledledger/model/Propagation -/
def k6 : Class := { plain "com/example/ruled_ledger/ruledledger/model/Propagation" (some 5) with
  accessFlags := 16433
  interfaces := #[]
  cf := some (fileOf pool6 1 #[] #[{ accessFlags := 1, nameIndex := 63, descriptorIndex := 64, attributes := #[] }] 16433 35 #[] #[{ accessFlags := 16409, nameIndex := 5, descriptorIndex := 6, attributes := #[] }, { accessFlags := 16409, nameIndex := 9, descriptorIndex := 6, attributes := #[] }, { accessFlags := 16409, nameIndex := 12, descriptorIndex := 6, attributes := #[] }, { accessFlags := 16409, nameIndex := 15, descriptorIndex := 6, attributes := #[] }, { accessFlags := 16409, nameIndex := 18, descriptorIndex := 6, attributes := #[] }, { accessFlags := 16409, nameIndex := 21, descriptorIndex := 6, attributes := #[] }, { accessFlags := 16409, nameIndex := 24, descriptorIndex := 6, attributes := #[] }, { accessFlags := 4122, nameIndex := 27, descriptorIndex := 28, attributes := #[] }])
  fields := #[{ name := "REQUIRED", type := (.object "com/example/ruled_ledger/ruledledger/model/Propagation"), accessFlags := 16409, slot := 0, constantValue := 0 }, { name := "SUPPORTS", type := (.object "com/example/ruled_ledger/ruledledger/model/Propagation"), accessFlags := 16409, slot := 1, constantValue := 0 }, { name := "MANDATORY", type := (.object "com/example/ruled_ledger/ruledledger/model/Propagation"), accessFlags := 16409, slot := 2, constantValue := 0 }, { name := "REQUIRES_NEW", type := (.object "com/example/ruled_ledger/ruledledger/model/Propagation"), accessFlags := 16409, slot := 3, constantValue := 0 }, { name := "NOT_SUPPORTED", type := (.object "com/example/ruled_ledger/ruledledger/model/Propagation"), accessFlags := 16409, slot := 4, constantValue := 0 }, { name := "NEVER", type := (.object "com/example/ruled_ledger/ruledledger/model/Propagation"), accessFlags := 16409, slot := 5, constantValue := 0 }, { name := "NESTED", type := (.object "com/example/ruled_ledger/ruledledger/model/Propagation"), accessFlags := 16409, slot := 6, constantValue := 0 }, { name := "$VALUES", type := (.array (.object "com/example/ruled_ledger/ruledledger/model/Propagation")), accessFlags := 4122, slot := 7, constantValue := 0 }]
  methods := #[k6m0]
  instanceTypes := #[(.object "java/lang/String"), .int, .int]
  staticTypes := #[(.object "com/example/ruled_ledger/ruledledger/model/Propagation"), (.object "com/example/ruled_ledger/ruledledger/model/Propagation"), (.object "com/example/ruled_ledger/ruledledger/model/Propagation"), (.object "com/example/ruled_ledger/ruledledger/model/Propagation"), (.object "com/example/ruled_ledger/ruledledger/model/Propagation"), (.object "com/example/ruled_ledger/ruledledger/model/Propagation"), (.object "com/example/ruled_ledger/ruledledger/model/Propagation"), (.array (.object "com/example/ruled_ledger/ruledledger/model/Propagation"))]
  resolved := Array.replicate 71 none
  statics := some 0 }

def pool7 : Array CpInfo := pool [(1, u "java/lang/Cloneable"), (0, .class_ 1), (0, u "java/lang/Object"), (0, .class_ 3)] 3

/-- java/lang/Cloneable -/
def k7 : Class := { plain "java/lang/Cloneable" (some 0) with
  accessFlags := 1537
  interfaces := #[]
  cf := some (fileOf pool7 2 #[] #[] 1537 4 #[] #[])
  fields := #[]
  methods := #[]
  instanceTypes := #[]
  staticTypes := #[]
  resolved := Array.replicate 8 none
  statics := none }

/-- the primitive byte -/
def k8 : Class := { plain "byte" none with kind := .primitive 'B', accessFlags := 0x411 }
/-- [B -/
def k9 : Class := { plain "[B" (some 0) with kind := .array 8 .byte, interfaces := #[7, 4], accessFlags := 1041 }

/-- the primitive int -/
def k10 : Class := { plain "int" none with kind := .primitive 'I', accessFlags := 0x411 }
/-- [I -/
def k11 : Class := { plain "[I" (some 0) with kind := .array 10 .int, interfaces := #[7, 4], accessFlags := 1041 }

def heap : Heap := #[{ cls := 6, slots := #[.ref 1, .ref 2, .ref 3, .ref 4, .ref 5, .ref 6, .ref 7, .null], vm := .statics 6 },
  { cls := 6, slots := #[.null, .int 0, .int 0], vm := .none },
  { cls := 6, slots := #[.null, .int 1, .int 0], vm := .none },
  { cls := 6, slots := #[.null, .int 2, .int 0], vm := .none },
  { cls := 6, slots := #[.null, .int 3, .int 0], vm := .none },
  { cls := 6, slots := #[.null, .int 4, .int 0], vm := .none },
  { cls := 6, slots := #[.null, .int 5, .int 0], vm := .none },
  { cls := 6, slots := #[.null, .int 6, .int 0], vm := .none }]
def classes : Array Class := #[k0, k1, k2, k3, k4, k5, k6, k7, k8, k9, k10, k11]
def interned : List (Array UInt16 × Addr) := []
def slotsUsed : Nat := 29
def theMethod : MethodId := ⟨1, 3⟩
def args0 : Array Value := #[.int 5]
def aboutOver (below : List Frame) : State where
  vm := { classes := classes, interned := interned.toArray }
  heap := heap
  slotsUsed := slotsUsed
  threads := #[{ frames := .invoking theMethod args0 :: below }]
def below0 : List Frame := [.native { method := ⟨0, 0⟩, args := #[] }]
def about1 : State := aboutOver below0
def p0 : Program := .bare "" "" ""
def e0 : Env := launch0.env 0 0 0
theorem w_frames : about1.frames = Frame.invoking theMethod args0 :: below0 := rfl
set_option maxRecDepth 65536 in
theorem w_args : argsFit about1.vm theMethod args0 = true := by decide +kernel
set_option maxRecDepth 65536 in
theorem w_heap : heapFits about1 = true := by decide +kernel
set_option maxRecDepth 65536 in
theorem w_runnable : about1.curStatus? = some .runnable := by decide +kernel
set_option maxRecDepth 65536 in
theorem w_alone : about1.alone = true := by decide +kernel
set_option maxRecDepth 65536 in
theorem w_named : about1.methodNamed? x = some theMethod := by decide +kernel
set_option maxRecDepth 65536 in
theorem w_hears : about1.hears theMethod below0 = true := by decide +kernel
set_option maxRecDepth 65536 in
theorem w_ripe : about1.ripe theMethod args0 below0 = true := by decide +kernel
theorem w_running : about1.status = .running := rfl
set_option maxRecDepth 65536 in
theorem w_room : about1.hasRoom e0.platform room_1 = true :=
  launch0.hasRoom_least _ room_1 (by decide +kernel) (by decide +kernel) (by decide +kernel) (by decide +kernel) (by decide +kernel) (by decide +kernel)
theorem allAtoms_all (ts : List Jvm.Cond) (a : Array Jvm.Value) (st : Jvm.State) : (allAtoms ts).before a st = ts.all (fun c => c.before a st) := by
  induction ts with
  | nil => rfl
  | cons c t ih =>
    show (Jvm.Cond.and c (allAtoms t)).before a st = _
    rw [Jvm.Cond.before_and, ih, List.all_cons]
def words1 : List Jvm.Cond := Jvm.Cond.code x code maxLocals ret :: tables_1
/-- a 'code' word, met by the world's own term for the bytes: nothing is compared byte by byte -/
theorem code_word {y : MethodName} {bytes : ByteArray} {mx : Nat} {rt : Option FieldType} {a : Array Value} {s : State} {m : MethodId} {meth : Method} {c : Code} (h1 : s.methodNamed? y = some m) (h2 : s.vm.method? m = some meth) (h3 : meth.code = some c) (h4 : c.code = bytes)
    (h5 : (c.maxLocals == mx && c.exceptionTable.isEmpty && decide (c.maxStack ≤ mostOperands) && decide (meth.sig.returnType = rt) && !meth.locks && decide (parseMethodDescriptor y.desc = some meth.sig)) = true) : (Jvm.Cond.code y bytes mx rt).before a s = true := by
  simp only [Bool.and_eq_true, beq_iff_eq, Bool.not_eq_true', decide_eq_true_eq] at h5
  obtain ⟨⟨⟨⟨⟨g1, g2⟩, g3⟩, g4⟩, g5⟩, g6⟩ := h5
  simp [Cond.before, Cond.holds, Cond.value, h1, h2, h3, h4, g1, g2, g3, g4, g5, g6]
def isCode : Jvm.Cond → Bool
  | .code _ _ _ _ => true
  | _ => false
theorem all_split {L : List Jvm.Cond} {P : Jvm.Cond → Bool} (h1 : L.all (fun c => isCode c || P c) = true) (h2 : ∀ c ∈ L.filter isCode, P c = true) : L.all P = true := by
  refine List.all_eq_true.mpr fun c hc => ?_
  have h := List.all_eq_true.mp h1 c hc
  rcases Bool.eq_false_or_eq_true (isCode c) with hi | hi
  · exact h2 c (List.mem_filter.mpr ⟨hc, hi⟩)
  · simpa [hi] using h
set_option maxRecDepth 65536 in
theorem w_c0 : (Jvm.Cond.code x code maxLocals ret).before args0 about1 = true := code_word (m := ⟨1, 3⟩) (meth := k1m3) (c := k1c3) (by decide +kernel) rfl rfl rfl (by decide +kernel)
set_option maxRecDepth 65536 in
theorem w_c1 : (Jvm.Cond.code ({ cls := "com/example/ruled_ledger/ruledledger/model/PropagationRunsInTransactionPinLaw", name := "pick", desc := "(I)Lcom/example/ruled_ledger/ruledledger/model/Propagation;" } : Jvm.MethodName) method_2_code (1 : Nat) (Option.some (Jvm.ClassFile.FieldType.object "com/example/ruled_ledger/ruledledger/model/Propagation"))).before args0 about1 = true := code_word (m := ⟨1, 1⟩) (meth := k1m1) (c := k1c1) (by decide +kernel) rfl rfl rfl (by decide +kernel)
set_option maxRecDepth 65536 in
theorem w_c2 : (Jvm.Cond.code ({ cls := "com/example/ruled_ledger/ruledledger/model/Propagation", name := "runsInTransaction", desc := "()Z" } : Jvm.MethodName) prog_25_method_4_code (1 : Nat) (Option.some Jvm.ClassFile.FieldType.boolean)).before args0 about1 = true := code_word (m := ⟨6, 0⟩) (meth := k6m0) (c := k6c0) (by decide +kernel) rfl rfl rfl (by decide +kernel)
set_option maxRecDepth 65536 in
theorem w_c3 : (Jvm.Cond.code ({ cls := "com/example/ruled_ledger/ruledledger/model/PropagationRunsInTransactionPinLaw", name := "expected", desc := "(I)Z" } : Jvm.MethodName) method_3_code (1 : Nat) (Option.some Jvm.ClassFile.FieldType.boolean)).before args0 about1 = true := code_word (m := ⟨1, 2⟩) (meth := k1m2) (c := k1c2) (by decide +kernel) rfl rfl rfl (by decide +kernel)
def codes1 : List Jvm.Cond := [Jvm.Cond.code x code maxLocals ret, Jvm.Cond.code ({ cls := "com/example/ruled_ledger/ruledledger/model/PropagationRunsInTransactionPinLaw", name := "pick", desc := "(I)Lcom/example/ruled_ledger/ruledledger/model/Propagation;" } : Jvm.MethodName) method_2_code (1 : Nat) (Option.some (Jvm.ClassFile.FieldType.object "com/example/ruled_ledger/ruledledger/model/Propagation")), Jvm.Cond.code ({ cls := "com/example/ruled_ledger/ruledledger/model/Propagation", name := "runsInTransaction", desc := "()Z" } : Jvm.MethodName) prog_25_method_4_code (1 : Nat) (Option.some Jvm.ClassFile.FieldType.boolean), Jvm.Cond.code ({ cls := "com/example/ruled_ledger/ruledledger/model/PropagationRunsInTransactionPinLaw", name := "expected", desc := "(I)Z" } : Jvm.MethodName) method_3_code (1 : Nat) (Option.some Jvm.ClassFile.FieldType.boolean)]
set_option maxRecDepth 65536 in
theorem codes_eq : words1.filter isCode = codes1 := rfl
theorem w_codes : ∀ c ∈ words1.filter isCode, c.before args0 about1 = true := by
  rw [codes_eq]
  intro c hc
  simp only [codes1, List.mem_cons, List.not_mem_nil, or_false] at hc
  rcases hc with rfl | rfl | rfl | rfl
  · exact w_c0
  · exact w_c1
  · exact w_c2
  · exact w_c3
set_option maxRecDepth 65536 in
theorem w_t1 : (words1.take 24).all (fun c => isCode c || c.before args0 about1) = true := by decide +kernel
set_option maxRecDepth 65536 in
theorem w_t2 : (words1.drop 24).all (fun c => isCode c || c.before args0 about1) = true := by decide +kernel
theorem w_tables : (allAtoms (Jvm.Cond.code x code maxLocals ret :: tables_1)).before args0 about1 = true := by
  rw [allAtoms_all]
  show words1.all (fun c => c.before args0 about1) = true
  refine all_split ?_ w_codes
  rw [← List.take_append_drop 24 words1, List.all_append, w_t1, w_t2]
  rfl
set_option maxRecDepth 65536 in
theorem w_case : (Jvm.Cond.and given_1 narrow_1).before args0 about1 = true := by decide +kernel
theorem w_applies : (headSpec (Jvm.Cond.code x code maxLocals ret :: tables_1) room_1).applies x e0.platform about1 = true :=
  (Spec.applies_iff w_frames).mpr ⟨w_running, w_runnable, w_alone, w_named, w_hears, w_ripe, w_room, w_tables⟩
theorem atStart : AtStart classFile x code maxLocals ret World_1 tables_1 room_1 Calls_1 rest_1 Pre_1 launch0 p0 e0 about1 theMethod args0 below0 :=
  ⟨lists_1, trivial, launch0.admits_env _ _ _, launch0.least_env, fairChoices_fair.cas, fairChoices_fair.clock, w_frames, w_args, w_heap, w_applies, trivial, trivial, w_case⟩
end start1
theorem witness_1 : WitnessClaimed_1 := ⟨start1.p0, start1.e0, start1.about1, start1.theMethod, start1.args0, start1.below0, start1.atStart⟩
end Jvm.Pilot.@@N@@
