import JvmDerived
import JvmDerived.Pilot.@@N@@Statement
import JvmDerived.Pilot.@@N@@Code
set_option linter.unusedVariables false
set_option linter.unusedSimpArgs false
namespace Jvm.RoadKit
open Sem ClassFile Op Lib Jvm.Stand Jvm.Free Jvm.LawKit
section New
variable {p : Program} {l : Launch} {e : Env} {R : Room} {s : State} {m : MethodId} {args : Array Value} {below : List Frame} {meth : Method} {c : Code} {T : State} {locs : List Loc} {cells slots : Nat}
theorem retI (X : Stand p l e R s m args below meth c T locs cells slots) (hx : p.tables.exec = Jvm.exec) {pc : Nat} {Ls : Array Slot} {z : Int32} {rest : List Value} (hret : meth.sig.returnType = some .int) (hd : decode c.code pc = .ok (.ireturn, 1)) {fs : List Frame}
    (hl : ∀ (f : JFrame) (acts : List Action), f.method = m → f.locked = none → f.entered = [] → (doReturn e (T.setTop f) acts (some (.int z))).1 = T.setFrames fs) : Steps p.tables e below (T.setTop (mkF m pc Ls (.int z :: rest))) (T.setFrames fs) := by
  have hm' : T.vm.method? m = some meth := X.method'
  have hn : narrow .int (.int z) = .int z := rfl
  show Steps p.tables e below (T.setTop { method := m, pc := pc, locals := Ls, stack := _ :: rest, locked := none }) _
  jvm_step X.here [X.here.top, hx, hd, hm', hret, hn]
  first | (intro acts; rw [hl _ acts rfl rfl rfl]) | rw [hl _ _ rfl rfl rfl]
  exact Steps.refl _
end New
end Jvm.RoadKit
namespace Jvm.Pilot.@@N@@
open Jvm Jvm.ClassFile Sem Op Lib Jvm.Free Jvm.Stand Jvm.LawKit Jvm.RoadKit Bundle Jvm.Pilot.@@N@@.Jvm.D
section OwnKit
/-- the rest of a body ends well: from the state U on it comes to its end, what it returns and leaves is as Q says -/
def Done (p : Program) (e : Env) (below : List Frame) (s : State) (Q : Option Value → Heap → List Loc → Prop) (C S : Nat) (U : State) : Prop :=
  ∃ s₂ o, Steps p.tables e below U s₂ ∧ s₂.status = .running ∧ Ended s₂ below o ∧ ∃ v L, o = .returned v ∧ Q v s₂.heap L ∧ FrameEnd s o s₂ L C S
variable {p : Program} {l : Launch} {e : Env} {R : Room} {s : State} {m : MethodId} {args : Array Value} {below : List Frame} {meth : Method} {c : Code} {T U U' : State} {locs : List Loc} {cells slots C S : Nat} {Q : Option Value → Heap → List Loc → Prop}
theorem Done.step (h : ∀ t, Steps p.tables e below U' t → Steps p.tables e below U t) (d : Done p e below s Q C S U') : Done p e below s Q C S U := by
  obtain ⟨s₂, o, h1, r⟩ := d
  exact ⟨s₂, o, h _ h1, r⟩
theorem Done.far (h : Steps p.tables e below U U') (d : Done p e below s Q C S U') : Done p e below s Q C S U := by
  obtain ⟨s₂, o, h1, r⟩ := d
  exact ⟨s₂, o, h.trans h1, r⟩
theorem Done.mono {Q' : Option Value → Heap → List Loc → Prop} (d : Done p e below s Q C S U) (h : ∀ v h L, Q v h L → Q' v h L) : Done p e below s Q' C S U := by
  obtain ⟨s₂, o, h1, h2, h3, v, L, h4, h5, h6⟩ := d
  exact ⟨s₂, o, h1, h2, h3, v, L, h4, h _ _ _ h5, h6⟩
theorem Done.int (X : Stand p l e R s m args below meth c T locs cells slots) (hx : p.tables.exec = Jvm.exec) (hlk : meth.locks = false) (hret : meth.sig.returnType = some .int) {pc : Nat} {Ls : Array Slot} {z : Int32} {rest : List Value} (hd : decode c.code pc = .ok (.ireturn, 1)) (hc : cells ≤ C) (hs : slots ≤ S)
    (hq : Q (some (.int z)) T.heap locs) : Done p e below s Q C S (T.setTop (mkF m pc Ls (.int z :: rest))) := by
  obtain ⟨fs, hr, hrun, hended, hW, hsame⟩ := X.leave (v := some (.int z)) (fun h => by rw [hret] at h; cases h)
  exact ⟨_, _, retI X hx hret hd hr, hrun, hended, _, _, rfl, hq, ⟨_, rfl⟩, hW, hsame.mono hc hs⟩
theorem Done.narr (X : Stand p l e R s m args below meth c T locs cells slots) (hx : p.tables.exec = Jvm.exec) (hlk : meth.locks = false) {t : FieldType} (hret : meth.sig.returnType = some t) (ht : t = .boolean ∨ t = .byte ∨ t = .char ∨ t = .short) {pc : Nat} {Ls : Array Slot} {z : Int32} {rest : List Value} (hd : decode c.code pc = .ok (.ireturn, 1)) (hc : cells ≤ C) (hs : slots ≤ S)
    (hq : Q (some (.int (nar t z))) T.heap locs) : Done p e below s Q C S (T.setTop (mkF m pc Ls (.int z :: rest))) := by
  obtain ⟨fs, hr, hrun, hended, hW, hsame⟩ := X.leave (v := some (.int (nar t z))) (fun h => by rw [hret] at h; cases h)
  exact ⟨_, _, retN X hx hret ht hd hr, hrun, hended, _, _, rfl, hq, ⟨_, rfl⟩, hW, hsame.mono hc hs⟩
theorem Done.long (X : Stand p l e R s m args below meth c T locs cells slots) (hx : p.tables.exec = Jvm.exec) (hlk : meth.locks = false) (hret : meth.sig.returnType = some .long) {pc : Nat} {Ls : Array Slot} {z : Int64} {rest : List Value} (hd : decode c.code pc = .ok (.lreturn, 1)) (hc : cells ≤ C) (hs : slots ≤ S)
    (hq : Q (some (.long z)) T.heap locs) : Done p e below s Q C S (T.setTop (mkF m pc Ls (.long z :: rest))) := by
  obtain ⟨fs, hr, hrun, hended, hW, hsame⟩ := X.leave (v := some (.long z)) (fun h => by rw [hret] at h; cases h)
  exact ⟨_, _, retOut X hx hret rfl (Or.inr (Or.inl ⟨rfl, rfl, z, rfl⟩)) hd hr, hrun, hended, _, _, rfl, hq, ⟨_, rfl⟩, hW, hsame.mono hc hs⟩
theorem Done.ref (X : Stand p l e R s m args below meth c T locs cells slots) (hx : p.tables.exec = Jvm.exec) (hlk : meth.locks = false) {t : FieldType} (hret : meth.sig.returnType = some t) (ht : t.isReference = true) {pc : Nat} {Ls : Array Slot} {w : Value} {rest : List Value} (hw : w.isRef = true) (hn : narrow t w = w) (hd : decode c.code pc = .ok (.areturn, 1)) (hc : cells ≤ C) (hs : slots ≤ S)
    (hq : Q (some w) T.heap locs) : Done p e below s Q C S (T.setTop (mkF m pc Ls (w :: rest))) := by
  obtain ⟨fs, hr, hrun, hended, hW, hsame⟩ := X.leave (v := some w) (fun h => by rw [hret] at h; cases h)
  exact ⟨_, _, retOut X hx hret hn (Or.inr (Or.inr (Or.inr (Or.inr ⟨rfl, ht, hw⟩)))) hd hr, hrun, hended, _, _, rfl, hq, ⟨_, rfl⟩, hW, hsame.mono hc hs⟩
theorem Done.void (X : Stand p l e R s m args below meth c T locs cells slots) (hx : p.tables.exec = Jvm.exec) (hlk : meth.locks = false) (hret : meth.sig.returnType = none) {pc : Nat} {Ls : Array Slot} (hd : decode c.code pc = .ok (.return_, 1)) (hc : cells ≤ C) (hs : slots ≤ S)
    (hq : Q none T.heap locs) : Done p e below s Q C S (T.setTop (mkF m pc Ls [])) := by
  obtain ⟨fs, hr, hrun, hended, hW, hsame⟩ := X.leave (v := none) (fun _ => rfl)
  exact ⟨_, _, X.returnOut hx hret hd hr, hrun, hended, _, _, rfl, hq, ⟨_, rfl⟩, hW, hsame.mono hc hs⟩
variable {Z : State} {h h' h0 : Heap} {a b : Addr} {ty : FieldType} {vs : List Value} {sl : Nat} {v x : Value} {ws : List Addr} {j : Int32} {g : JFrame} {rest : List Value}
/-- an array whose slots are just the list vs -/
def Ax (Z : State) (h : Heap) (a : Addr) (ty : FieldType) (vs : List Value) : Prop := ∃ c : Cell, Arr Z h a c ty ∧ c.slots = vs.toArray
theorem Ax.lt (F : Ax Z h a ty vs) : a < h.size := by obtain ⟨c, A, -⟩ := F; exact A.lt
theorem Ax.ext (F : Ax Z h a ty vs) (E : Ext h h') : Ax Z h' a ty vs := by obtain ⟨c, A, r⟩ := F; exact ⟨c, A.ext E, r⟩
theorem Ax.other (F : Ax Z h b ty vs) (W : Wr h h' a sl v) (q : b ≠ a) : Ax Z h' b ty vs := by obtain ⟨c, A, r⟩ := F; exact ⟨c, A.other W q, r⟩
theorem Ax.keep (F : Ax Z h a ty vs) (K : Keep h h' ws) (q : a ∉ ws) : Ax Z h' a ty vs := by obtain ⟨c, A, r⟩ := F; exact ⟨c, ⟨K.2.1 a c A.1 q, A.2⟩, r⟩
theorem own_stakeep {C n d : String} (F : Sta Z h C n d v) (K : Keep h h' ws) (q : ∀ y ∈ ws, ∃ cell : Cell, h[y]? = some cell ∧ cell.vm.isStatics = false) : Sta Z h' C n d v := by
  obtain ⟨cf, i, k, f, st, cell, h1, h2, h3, h4, h5, h6, h7⟩ := F
  refine ⟨cf, i, k, f, st, cell, h1, h2, h3, h4, K.2.1 st cell h5 (fun z => ?_), h6, h7⟩
  obtain ⟨c', g1, g2⟩ := q st z
  cases h5.symm.trans g1; rw [g2] at h6; cases h6
theorem own_unst {C : String} (F : Exa Z h a C) : ∃ cell : Cell, h[a]? = some cell ∧ cell.vm.isStatics = false := by
  obtain ⟨cell, k, h1, -, -, h4, -⟩ := F; exact ⟨cell, h1, h4⟩
theorem fld_long {t : Term} {D n d : String} {k : Int64} {y : Addr} {av : Array Value} (hh : (Jvm.Cond.eq (Term.field t D n d) (Term.long k)).value av Z none Z [] = some true) (ht : t.eval av Z none [] Z = some (.ref y)) : Fld Z Z.heap y D n d (.long k) := by
  obtain ⟨u, w, e1, e2, k1, k2⟩ := cmp_v (Or.inl hh)
  have e3 : (Term.long k).eval av Z none [] Z = some (.long k) := rfl
  rw [e3] at e2; cases e2
  obtain ⟨z, rfl⟩ := k2
  have q := gotT (eq_L e1 e3) hh
  subst q
  rw [fld_at ht] at e1
  exact Fld.start e1
theorem fld_int {t : Term} {D n d : String} {k : Int32} {y : Addr} {av : Array Value} (hh : (Jvm.Cond.eq (Term.field t D n d) (Term.int k)).value av Z none Z [] = some true) (ht : t.eval av Z none [] Z = some (.ref y)) : Fld Z Z.heap y D n d (.int k) := by
  obtain ⟨u, w, e1, e2, k1, k2⟩ := cmp_v (Or.inl hh)
  have e3 : (Term.int k).eval av Z none [] Z = some (.int k) := rfl
  rw [e3] at e2; cases e2
  obtain ⟨z, rfl⟩ := k2
  have q : z = k := by simpa [Jvm.Cond.value, e1, e3] using hh
  subst q
  rw [fld_at ht] at e1
  exact Fld.start e1
theorem Ax.set (F : Ax Z h a ty vs) (W : Wr h h' a sl v) : Ax Z h' a ty (vs.set sl v) := by
  obtain ⟨c, A, r⟩ := F
  exact ⟨_, A.same W, by rw [show (c.setSlot sl v).slots = c.slots.setIfInBounds sl v from rfl, r, List.setIfInBounds_toArray]⟩
theorem Ax.new {k : ClassId} {n : Int32} {i : Nat} (A : Arr Z h a (newA k ty n) ty) (hi : n.toNatClampNeg = i) : Ax Z h a ty (List.replicate i (defaultValue ty)) :=
  ⟨_, A, by rw [show (newA k ty n).slots = Array.replicate n.toNatClampNeg (defaultValue ty) from rfl, hi, List.toArray_replicate]⟩
theorem Ax.size {c : Cell} (r : c.slots = vs.toArray) : c.slots.size = vs.length := by rw [r, List.size_toArray]
theorem Ax.inb {c : Cell} (r : c.slots = vs.toArray) (hj : ¬ j < 0) (hl : j.toNatClampNeg < vs.length) : ¬ (j < 0 ∨ c.slots.size ≤ j.toNatClampNeg) := fun q => q.elim hj fun u => by
  rw [Ax.size r] at u; exact absurd hl (Nat.not_lt.mpr u)
theorem Ax.get {c : Cell} (r : c.slots = vs.toArray) (hat : vs[j.toNatClampNeg]? = some x) : c.slots[j.toNatClampNeg]? = some x := by rw [r, List.getElem?_toArray]; exact hat
theorem Ax.lens (hat : vs[j.toNatClampNeg]? = some x) : j.toNatClampNeg < vs.length := (List.getElem?_eq_some_iff.mp hat).1
theorem ldI (X : Stand p l e R s m args below meth c T locs cells slots) (hx : p.tables.exec = Jvm.exec) (hZ : Z.Warmed39 s.vm) (eT : T.heap = h) (F : Ax Z h a .int vs) (hj : ¬ j < 0) (hat : vs[j.toNatClampNeg]? = some x) (hg : g.method = m) (hs : g.stack = .int j :: .ref a :: rest) (hd : decode c.code g.pc = .ok (.iaload, 1)) :
    ∀ target, Steps p.tables e below (T.setTop { g with pc := g.pc + 1, stack := x :: rest }) target → Steps p.tables e below (T.setTop g) target := by
  obtain ⟨cl, A, r⟩ := F
  exact X.iaload hx (by rw [eT]; exact A.1) (State.isArrayOf_alike hZ.alike A.2.1) A.2.2 (Ax.inb r hj (Ax.lens hat)) (Ax.get r hat) hg hs hd
theorem ldJ (X : Stand p l e R s m args below meth c T locs cells slots) (hx : p.tables.exec = Jvm.exec) (hZ : Z.Warmed39 s.vm) (eT : T.heap = h) (F : Ax Z h a .long vs) (hj : ¬ j < 0) (hat : vs[j.toNatClampNeg]? = some x) (hg : g.method = m) (hs : g.stack = .int j :: .ref a :: rest) (hd : decode c.code g.pc = .ok (.laload, 1)) :
    ∀ target, Steps p.tables e below (T.setTop { g with pc := g.pc + 1, stack := x :: rest }) target → Steps p.tables e below (T.setTop g) target := by
  obtain ⟨cl, A, r⟩ := F
  exact X.laload hx (by rw [eT]; exact A.1) (State.isArrayOf_alike hZ.alike A.2.1) A.2.2 (Ax.inb r hj (Ax.lens hat)) (Ax.get r hat) hg hs hd
theorem ldB (X : Stand p l e R s m args below meth c T locs cells slots) (hx : p.tables.exec = Jvm.exec) (hZ : Z.Warmed39 s.vm) (eT : T.heap = h) (F : Ax Z h a .byte vs) (hj : ¬ j < 0) (hat : vs[j.toNatClampNeg]? = some x) (hg : g.method = m) (hs : g.stack = .int j :: .ref a :: rest) (hd : decode c.code g.pc = .ok (.baload, 1)) :
    ∀ target, Steps p.tables e below (T.setTop { g with pc := g.pc + 1, stack := x :: rest }) target → Steps p.tables e below (T.setTop g) target := by
  obtain ⟨cl, A, r⟩ := F
  exact X.baloadBytes hx (by rw [eT]; exact A.1) (State.isArrayOf_alike hZ.alike A.2.1) A.2.2 (Ax.inb r hj (Ax.lens hat)) (Ax.get r hat) hg hs hd
theorem ldZ (X : Stand p l e R s m args below meth c T locs cells slots) (hx : p.tables.exec = Jvm.exec) (hZ : Z.Warmed39 s.vm) (eT : T.heap = h) (F : Ax Z h a .boolean vs) (hj : ¬ j < 0) (hat : vs[j.toNatClampNeg]? = some x) (hg : g.method = m) (hs : g.stack = .int j :: .ref a :: rest) (hd : decode c.code g.pc = .ok (.baload, 1)) :
    ∀ target, Steps p.tables e below (T.setTop { g with pc := g.pc + 1, stack := x :: rest }) target → Steps p.tables e below (T.setTop g) target := by
  obtain ⟨cl, A, r⟩ := F
  exact X.baloadBooleans hx (by rw [eT]; exact A.1) (State.isArrayOf_alike hZ.alike A.2.1) A.2.2 (Ax.inb r hj (Ax.lens hat)) (Ax.get r hat) hg hs hd
theorem lenA (X : Stand p l e R s m args below meth c T locs cells slots) (hx : p.tables.exec = Jvm.exec) (hZ : Z.Warmed39 s.vm) (eT : T.heap = h) (F : Ax Z h a ty vs) {n : Int32} (hn : vs.length.toInt32 = n) (hg : g.method = m) (hs : g.stack = .ref a :: rest) (hd : decode c.code g.pc = .ok (.arraylength, 1)) :
    ∀ target, Steps p.tables e below (T.setTop { g with pc := g.pc + 1, stack := .int n :: rest }) target → Steps p.tables e below (T.setTop g) target := by
  obtain ⟨cl, A, r⟩ := F
  intro target k
  refine X.arraylength hx (by rw [eT]; exact A.1) (State.isArrayOf_alike hZ.alike A.2.1) hg hs hd target ?_
  rw [Ax.size r, hn]; exact k
theorem stoI (X : Stand p l e R s m args below meth c T locs cells slots) (hx : p.tables.exec = Jvm.exec) (hZ : Z.Warmed39 s.vm) (eT : T.heap = h) (F : Ax Z h a .int vs) {y : Int32} (hj : ¬ j < 0) {i : Nat} (hi : j.toNatClampNeg = i) (hl : i < vs.length) (hg : g.method = m) (hs : g.stack = .int y :: .int j :: .ref a :: rest) (hd : decode c.code g.pc = .ok (.iastore, 1)) :
    ∃ T' h', Stand p l e R s m args below meth c T' (locs ++ [⟨a, j.toNatClampNeg⟩]) cells slots ∧ T'.heap = h' ∧ Wr h h' a j.toNatClampNeg (.int y) ∧ Ax Z h' a .int (vs.set i (.int y)) ∧ ∀ target, Steps p.tables e below (T'.setTop { g with pc := g.pc + 1, stack := rest }) target → Steps p.tables e below (T.setTop g) target := by
  obtain ⟨cl, A, r⟩ := F
  obtain ⟨T', h', X', e', W, st⟩ := stI X hx hZ eT A (Ax.inb r hj (by rw [hi]; exact hl)) hg hs hd
  exact ⟨T', h', X', e', W, hi ▸ Ax.set ⟨cl, A, r⟩ W, st⟩
theorem stoJ (X : Stand p l e R s m args below meth c T locs cells slots) (hx : p.tables.exec = Jvm.exec) (hZ : Z.Warmed39 s.vm) (eT : T.heap = h) (F : Ax Z h a .long vs) {y : Int64} (hj : ¬ j < 0) {i : Nat} (hi : j.toNatClampNeg = i) (hl : i < vs.length) (hg : g.method = m) (hs : g.stack = .long y :: .int j :: .ref a :: rest) (hd : decode c.code g.pc = .ok (.lastore, 1)) :
    ∃ T' h', Stand p l e R s m args below meth c T' (locs ++ [⟨a, j.toNatClampNeg⟩]) cells slots ∧ T'.heap = h' ∧ Wr h h' a j.toNatClampNeg (.long y) ∧ Ax Z h' a .long (vs.set i (.long y)) ∧ ∀ target, Steps p.tables e below (T'.setTop { g with pc := g.pc + 1, stack := rest }) target → Steps p.tables e below (T.setTop g) target := by
  obtain ⟨cl, A, r⟩ := F
  obtain ⟨T', h', X', e', W, st⟩ := stJ X hx hZ eT A (Ax.inb r hj (by rw [hi]; exact hl)) hg hs hd
  exact ⟨T', h', X', e', W, hi ▸ Ax.set ⟨cl, A, r⟩ W, st⟩
theorem stoB (X : Stand p l e R s m args below meth c T locs cells slots) (hx : p.tables.exec = Jvm.exec) (hZ : Z.Warmed39 s.vm) (eT : T.heap = h) (F : Ax Z h a .byte vs) {y : Int32} (hj : ¬ j < 0) {i : Nat} (hi : j.toNatClampNeg = i) (hl : i < vs.length) (hg : g.method = m) (hs : g.stack = .int y :: .int j :: .ref a :: rest) (hd : decode c.code g.pc = .ok (.bastore, 1)) :
    ∃ T' h', Stand p l e R s m args below meth c T' (locs ++ [⟨a, j.toNatClampNeg⟩]) cells slots ∧ T'.heap = h' ∧ Wr h h' a j.toNatClampNeg (.int (nar .byte y)) ∧ Ax Z h' a .byte (vs.set i (.int (nar .byte y))) ∧ ∀ target, Steps p.tables e below (T'.setTop { g with pc := g.pc + 1, stack := rest }) target → Steps p.tables e below (T.setTop g) target := by
  obtain ⟨cl, A, r⟩ := F
  obtain ⟨T', h', X', e', W, st⟩ := stB X hx hZ eT A (Ax.inb r hj (by rw [hi]; exact hl)) hg hs hd
  exact ⟨T', h', X', e', W, hi ▸ Ax.set ⟨cl, A, r⟩ W, st⟩
theorem stoZ (X : Stand p l e R s m args below meth c T locs cells slots) (hx : p.tables.exec = Jvm.exec) (hZ : Z.Warmed39 s.vm) (eT : T.heap = h) (F : Ax Z h a .boolean vs) {y : Int32} (hj : ¬ j < 0) {i : Nat} (hi : j.toNatClampNeg = i) (hl : i < vs.length) (hg : g.method = m) (hs : g.stack = .int y :: .int j :: .ref a :: rest) (hd : decode c.code g.pc = .ok (.bastore, 1)) :
    ∃ T' h', Stand p l e R s m args below meth c T' (locs ++ [⟨a, j.toNatClampNeg⟩]) cells slots ∧ T'.heap = h' ∧ Wr h h' a j.toNatClampNeg (.int (nar .boolean y)) ∧ Ax Z h' a .boolean (vs.set i (.int (nar .boolean y))) ∧ ∀ target, Steps p.tables e below (T'.setTop { g with pc := g.pc + 1, stack := rest }) target → Steps p.tables e below (T.setTop g) target := by
  obtain ⟨cl, A, r⟩ := F
  obtain ⟨T', h', X', e', W, st⟩ := stZ X hx hZ eT A (Ax.inb r hj (by rw [hi]; exact hl)) hg hs hd
  exact ⟨T', h', X', e', W, hi ▸ Ax.set ⟨cl, A, r⟩ W, st⟩
theorem cloX (X : Stand p l e R s m args below meth c T locs cells slots) (hx : p.tables.exec = Jvm.exec) (hZ : Z.Warmed39 s.vm) {a0 : Array Value} {own ad : String} {index : Nat} (hown : s.vm.findClass own = some m.cls)
    (w1 : (Cond.methodLink own index ⟨ad, "clone", "()Ljava/lang/Object;"⟩).before a0 Z = true) (w2 : (Cond.sameMethod ad "java/lang/Object" "clone" "()Ljava/lang/Object;").before a0 Z = true) (w3 : (Cond.native ⟨"java/lang/Object", "clone", "()Ljava/lang/Object;"⟩).before a0 Z = true)
    (w4 : (Cond.instanceMethod ⟨"java/lang/Object", "clone", "()Ljava/lang/Object;"⟩).before a0 Z = true) (w5 : (Cond.selects ad ⟨ad, "clone", "()Ljava/lang/Object;"⟩ ⟨"java/lang/Object", "clone", "()Ljava/lang/Object;"⟩).before a0 Z = true) (w6 : (Cond.castable ad "java/lang/Cloneable").before a0 Z = true)
    (eT : T.heap = h) (F : Ax Z h a ty vs) (E : Exa Z h a ad) (G : ∀ v ∈ vs, fits ty v = true) (hg : g.method = m) (hsize : g.locals.size = c.maxLocals) (hs : g.stack = .ref a :: rest) (hd : decode c.code g.pc = .ok (.invokevirtual index, 3))
    (hf : 1 ≤ R.frames) {W cap : Nat} (hW : 2 * g.monitorRoom + (rest.map fun v => v.category).sum ≤ W) (hl : W + 14 ≤ R.locals) (hcap : vs.length ≤ cap) (hc : cells + 1 ≤ R.cells) (hsl : slots + cap ≤ R.slots) :
    ∃ T' h', Stand p l e R s m args below meth c T' locs (cells + 1) (slots + cap) ∧ T'.heap = h' ∧ Ext h h' ∧ Ax Z h' h.size ty vs ∧ Exa Z h' h.size ad ∧
      ∀ target, Steps p.tables e below (T'.setTop { g with pc := g.pc + 3, stack := .ref h.size :: rest }) target → Steps p.tables e below (T.setTop g) target := by
  obtain ⟨cl, A, r⟩ := F
  have FC : FitC Z cl := fitC_of A fun i hi v hv => by
    rw [r, List.getElem?_toArray] at hv
    exact G v (List.mem_of_getElem? hv)
  obtain ⟨T', h', X', e', ex, A', E', st⟩ := cloneA X hx hZ hown w1 w2 w3 w4 w5 w6 eT A E FC hg hsize hs hd hf hW hl (by rw [Ax.size r]; exact hcap) hc hsl
  exact ⟨T', h', X', e', ex, ⟨cloneOf cl, A', r⟩, E', st⟩
end OwnKit
theorem pd_0 : parseMethodDescriptor "(J)Z" = some ⟨[.long], some .boolean⟩ := by decide +kernel
theorem pd_1 : parseMethodDescriptor "(IZ)J" = some ⟨[.int, .boolean], some .long⟩ := by decide +kernel
theorem d1_0 : decode method_3_code 0 = .ok (.iload_n 0, 1) := by decide +kernel
theorem d1_1 : decode method_3_code 1 = .ok (.ifCond .ne 17, 3) := by decide +kernel
theorem d1_4 : decode method_3_code 4 = .ok (.iload_n 1, 1) := by decide +kernel
theorem d1_5 : decode method_3_code 5 = .ok (.ifCond .eq 9, 3) := by decide +kernel
theorem d1_8 : decode method_3_code 8 = .ok (.ldc2_w 36, 3) := by decide +kernel
theorem d1_11 : decode method_3_code 11 = .ok (.goto 6, 3) := by decide +kernel
theorem d1_14 : decode method_3_code 14 = .ok (.ldc2_w 38, 3) := by decide +kernel
theorem d1_17 : decode method_3_code 17 = .ok (.lreturn, 1) := by decide +kernel
theorem d1_18 : decode method_3_code 18 = .ok (.iload_n 0, 1) := by decide +kernel
theorem d1_19 : decode method_3_code 19 = .ok (.iconst 1, 1) := by decide +kernel
theorem d1_20 : decode method_3_code 20 = .ok (.if_icmp .ne 17, 3) := by decide +kernel
theorem d1_23 : decode method_3_code 23 = .ok (.iload_n 1, 1) := by decide +kernel
theorem d1_24 : decode method_3_code 24 = .ok (.ifCond .eq 9, 3) := by decide +kernel
theorem d1_27 : decode method_3_code 27 = .ok (.ldc2_w 42, 3) := by decide +kernel
theorem d1_30 : decode method_3_code 30 = .ok (.goto 6, 3) := by decide +kernel
theorem d1_33 : decode method_3_code 33 = .ok (.ldc2_w 44, 3) := by decide +kernel
theorem d1_36 : decode method_3_code 36 = .ok (.lreturn, 1) := by decide +kernel
theorem d1_37 : decode method_3_code 37 = .ok (.iload_n 0, 1) := by decide +kernel
theorem d1_38 : decode method_3_code 38 = .ok (.iconst 2, 1) := by decide +kernel
theorem d1_39 : decode method_3_code 39 = .ok (.if_icmp .ne 17, 3) := by decide +kernel
theorem d1_42 : decode method_3_code 42 = .ok (.iload_n 1, 1) := by decide +kernel
theorem d1_43 : decode method_3_code 43 = .ok (.ifCond .eq 9, 3) := by decide +kernel
theorem d1_46 : decode method_3_code 46 = .ok (.ldc2_w 48, 3) := by decide +kernel
theorem d1_49 : decode method_3_code 49 = .ok (.goto 6, 3) := by decide +kernel
theorem d1_52 : decode method_3_code 52 = .ok (.ldc2_w 50, 3) := by decide +kernel
theorem d1_55 : decode method_3_code 55 = .ok (.lreturn, 1) := by decide +kernel
theorem d1_56 : decode method_3_code 56 = .ok (.iload_n 1, 1) := by decide +kernel
theorem d1_57 : decode method_3_code 57 = .ok (.ifCond .eq 9, 3) := by decide +kernel
theorem d1_60 : decode method_3_code 60 = .ok (.ldc2_w 54, 3) := by decide +kernel
theorem d1_63 : decode method_3_code 63 = .ok (.goto 6, 3) := by decide +kernel
theorem d1_66 : decode method_3_code 66 = .ok (.ldc2_w 56, 3) := by decide +kernel
theorem d1_69 : decode method_3_code 69 = .ok (.lreturn, 1) := by decide +kernel
def F1 (p1 : Int32) (p2 : Int32) : Int64 := (if p1 = (0 : Int32) then (if p2 = (0 : Int32) then (-9223372036854775808 : Int64)
    else (9223372036854775807 : Int64))
  else (if p1 = (1 : Int32) then (if p2 = (0 : Int32) then (-2147483648 : Int64)
      else (2147483647 : Int64))
    else (if p1 = (2 : Int32) then (if p2 = (0 : Int32) then (-32768 : Int64)
        else (32767 : Int64))
      else (if p2 = (0 : Int32) then (-128 : Int64)
        else (127 : Int64)))))
theorem pn_1 : plainName "com/example/taulu/taulu/bind/ScalarHoldsPinLaw" = true := by first | (simp [plainName, overriddenIn]; done) | decide +kernel
theorem ef_1 (m : MethodId) (p1 : Int32) (p2 : Int32) : entryFrame m #[(.int p1), (.int p2)] 2 = mkF m 0 #[.val (.int p1), .val (.int p2)] [] := by first | (simp [entryFrame, mkF, argsToLocals, Value.category]; done) | rfl
def Qrm1 (Z : State) (p1 : Int32) (p2 : Int32) (h0 : Heap) (n0 : Nat) : Option Value → Heap → List Loc → Prop := fun v h L => v = some (.long (F1 p1 p2)) ∧ Fr n0 L ∧ h = h0
set_option maxRecDepth 65536 in
set_option maxHeartbeats 40000000 in
theorem rm1 (l : Launch) (Z : State) (a0 : Array Value) (hw : ∀ d ∈ tables_1, d.before a0 Z = true) (ws : List Jvm.Cond) (p1 : Int32) (p2 : Int32) (h0 : Heap) (n0 : Nat) (Z0 : n0 ≤ h0.size) :
    MetFree l (⟨"com/example/taulu/taulu/bind/ScalarHoldsPinLaw", "bound", "(IZ)J"⟩ : MethodName) (head1 (Jvm.Cond.code (⟨"com/example/taulu/taulu/bind/ScalarHoldsPinLaw", "bound", "(IZ)J"⟩ : MethodName) method_3_code 2 (some .long) :: ws) ({ frames := 0, cells := 0, slots := 0, locals := 0 } : Room)) (fun a U => a = #[(.int p1), (.int p2)] ∧ Z.Warmed39 U.vm ∧ U.heap = h0) (fun _ _ _ _ _ => True) (fun _ U o U' => ∃ v L, o = .returned v ∧ Qrm1 Z p1 p2 h0 n0 v U'.heap L ∧ FrameEnd U o U' L ({ frames := 0, cells := 0, slots := 0, locals := 0 } : Room).cells ({ frames := 0, cells := 0, slots := 0, locals := 0 } : Room).slots) := by
  refine MetFree.of_bodySF (plainFor_of_name pn_1) hisR ?_
  intro p e s m args below meth c s₁ Bd hml0 hP hK
  obtain ⟨rfl, hZ, hh⟩ := hP
  have hx := Bd.exec
  have hby := Bd.bytes
  have hml : c.maxLocals = 2 := hml0
  have hown : s.vm.findClass "com/example/taulu/taulu/bind/ScalarHoldsPinLaw" = some m.cls := findClass_of_methodNamed Bd.named
  have hnm := (name_of_methodNamed Bd.named Bd.method).1
  have hlk : meth.locks = false := BodyLoose.notSynchronized Bd
  have hret := Bd.returns
  have X0 : Stand p l e ({ frames := 0, cells := 0, slots := 0, locals := 0 } : Room) s m #[(.int p1), (.int p2)] below meth c s₁ [] 0 0 := Stand.of_body Bd
  have e0 : s₁.heap = h0 := by rw [← hh, Bd.state]; rfl
  have N0 := Fr.nil n0
  show Done p e below s (Qrm1 Z p1 p2 h0 n0) ({ frames := 0, cells := 0, slots := 0, locals := 0 } : Room).cells ({ frames := 0, cells := 0, slots := 0, locals := 0 } : Room).slots (s₁.setTop (entryFrame m #[(.int p1), (.int p2)] 2))
  refine Done.step (fun t k => castTop (ef_1 m p1 p2) k) ?_
  show Done p e below s _ _ _ (s₁.setTop (mkF m 0 #[.val (.int p1), .val (.int p2)] []))
  refine Done.step (fun t k => XS.iloadN X0.here hx rfl (hb hby d1_0) rfl k) ?_
  show Done p e below s _ _ _ (s₁.setTop (mkF m 1 #[.val (.int p1), .val (.int p2)] [(.int p1)]))
  by_cases c1 : p1 = (0 : Int32)
  · refine Done.step (fun t k => XS.ifNo X0.here hx rfl (hb hby d1_1) rfl ((if0 _ _).trans (teq c1).2) k) ?_
    show Done p e below s _ _ _ (s₁.setTop (mkF m 4 #[.val (.int p1), .val (.int p2)] []))
    refine Done.step (fun t k => XS.iloadN X0.here hx rfl (hb hby d1_4) rfl k) ?_
    show Done p e below s _ _ _ (s₁.setTop (mkF m 5 #[.val (.int p1), .val (.int p2)] [(.int p2)]))
    by_cases c2 : p2 = (0 : Int32)
    · refine Done.step (fun t k => XS.ifYes X0.here hx rfl (pc0 := 5) (pc' := 14) rfl (hb hby d1_5) rfl ((if0 _ _).trans (teq c2).1) (by decide) (by decide) k) ?_
      show Done p e below s _ _ _ (s₁.setTop (mkF m 14 #[.val (.int p1), .val (.int p2)] []))
      refine Done.step (X0.ldc2Long hx hown (mvT hZ (hw _ (List.mem_of_getElem? (i := 4) rfl))) (g := (mkF m 14 #[.val (.int p1), .val (.int p2)] [])) rfl (hb hby d1_14)) ?_
      show Done p e below s _ _ _ (s₁.setTop (mkF m 17 #[.val (.int p1), .val (.int p2)] [(.long (-9223372036854775808 : Int64))]))
      exact Done.long X0 hx hlk hret (hb hby d1_17) (by decide) (by decide) ⟨by rw [show F1 p1 p2 = (-9223372036854775808 : Int64) from by unfold F1; rw [if_pos c1, if_pos c2]] <;> rfl, N0, e0⟩
    · refine Done.step (fun t k => XS.ifNo X0.here hx rfl (hb hby d1_5) rfl ((if0 _ _).trans (feq c2).1) k) ?_
      show Done p e below s _ _ _ (s₁.setTop (mkF m 8 #[.val (.int p1), .val (.int p2)] []))
      refine Done.step (X0.ldc2Long hx hown (mvT hZ (hw _ (List.mem_of_getElem? (i := 29) rfl))) (g := (mkF m 8 #[.val (.int p1), .val (.int p2)] [])) rfl (hb hby d1_8)) ?_
      show Done p e below s _ _ _ (s₁.setTop (mkF m 11 #[.val (.int p1), .val (.int p2)] [(.long (9223372036854775807 : Int64))]))
      refine Done.step (fun t k => XS.goto X0.here hx rfl (pc0 := 11) (pc' := 17) rfl (hb hby d1_11) (by decide) (by decide) k) ?_
      show Done p e below s _ _ _ (s₁.setTop (mkF m 17 #[.val (.int p1), .val (.int p2)] [(.long (9223372036854775807 : Int64))]))
      exact Done.long X0 hx hlk hret (hb hby d1_17) (by decide) (by decide) ⟨by rw [show F1 p1 p2 = (9223372036854775807 : Int64) from by unfold F1; rw [if_pos c1, if_neg c2]] <;> rfl, N0, e0⟩
  · refine Done.step (fun t k => XS.ifYes X0.here hx rfl (pc0 := 1) (pc' := 18) rfl (hb hby d1_1) rfl ((if0 _ _).trans (feq c1).2) (by decide) (by decide) k) ?_
    show Done p e below s _ _ _ (s₁.setTop (mkF m 18 #[.val (.int p1), .val (.int p2)] []))
    refine Done.step (fun t k => XS.iloadN X0.here hx rfl (hb hby d1_18) rfl k) ?_
    show Done p e below s _ _ _ (s₁.setTop (mkF m 19 #[.val (.int p1), .val (.int p2)] [(.int p1)]))
    refine Done.step (fun t k => XS.iconst X0.here hx rfl (hb hby d1_19) k) ?_
    show Done p e below s _ _ _ (s₁.setTop (mkF m 20 #[.val (.int p1), .val (.int p2)] [(.int (1 : Int32)), (.int p1)]))
    by_cases c3 : p1 = (1 : Int32)
    · refine Done.step (fun t k => XS.icmpNo X0.here hx rfl (hb hby d1_20) rfl (teq c3).2 k) ?_
      show Done p e below s _ _ _ (s₁.setTop (mkF m 23 #[.val (.int p1), .val (.int p2)] []))
      refine Done.step (fun t k => XS.iloadN X0.here hx rfl (hb hby d1_23) rfl k) ?_
      show Done p e below s _ _ _ (s₁.setTop (mkF m 24 #[.val (.int p1), .val (.int p2)] [(.int p2)]))
      by_cases c4 : p2 = (0 : Int32)
      · refine Done.step (fun t k => XS.ifYes X0.here hx rfl (pc0 := 24) (pc' := 33) rfl (hb hby d1_24) rfl ((if0 _ _).trans (teq c4).1) (by decide) (by decide) k) ?_
        show Done p e below s _ _ _ (s₁.setTop (mkF m 33 #[.val (.int p1), .val (.int p2)] []))
        refine Done.step (X0.ldc2Long hx hown (mvT hZ (hw _ (List.mem_of_getElem? (i := 30) rfl))) (g := (mkF m 33 #[.val (.int p1), .val (.int p2)] [])) rfl (hb hby d1_33)) ?_
        show Done p e below s _ _ _ (s₁.setTop (mkF m 36 #[.val (.int p1), .val (.int p2)] [(.long (-2147483648 : Int64))]))
        exact Done.long X0 hx hlk hret (hb hby d1_36) (by decide) (by decide) ⟨by rw [show F1 p1 p2 = (-2147483648 : Int64) from by unfold F1; rw [if_neg c1, if_pos c3, if_pos c4]] <;> rfl, N0, e0⟩
      · refine Done.step (fun t k => XS.ifNo X0.here hx rfl (hb hby d1_24) rfl ((if0 _ _).trans (feq c4).1) k) ?_
        show Done p e below s _ _ _ (s₁.setTop (mkF m 27 #[.val (.int p1), .val (.int p2)] []))
        refine Done.step (X0.ldc2Long hx hown (mvT hZ (hw _ (List.mem_of_getElem? (i := 28) rfl))) (g := (mkF m 27 #[.val (.int p1), .val (.int p2)] [])) rfl (hb hby d1_27)) ?_
        show Done p e below s _ _ _ (s₁.setTop (mkF m 30 #[.val (.int p1), .val (.int p2)] [(.long (2147483647 : Int64))]))
        refine Done.step (fun t k => XS.goto X0.here hx rfl (pc0 := 30) (pc' := 36) rfl (hb hby d1_30) (by decide) (by decide) k) ?_
        show Done p e below s _ _ _ (s₁.setTop (mkF m 36 #[.val (.int p1), .val (.int p2)] [(.long (2147483647 : Int64))]))
        exact Done.long X0 hx hlk hret (hb hby d1_36) (by decide) (by decide) ⟨by rw [show F1 p1 p2 = (2147483647 : Int64) from by unfold F1; rw [if_neg c1, if_pos c3, if_neg c4]] <;> rfl, N0, e0⟩
    · refine Done.step (fun t k => XS.icmpYes X0.here hx rfl (pc0 := 20) (pc' := 37) rfl (hb hby d1_20) rfl (feq c3).2 (by decide) (by decide) k) ?_
      show Done p e below s _ _ _ (s₁.setTop (mkF m 37 #[.val (.int p1), .val (.int p2)] []))
      refine Done.step (fun t k => XS.iloadN X0.here hx rfl (hb hby d1_37) rfl k) ?_
      show Done p e below s _ _ _ (s₁.setTop (mkF m 38 #[.val (.int p1), .val (.int p2)] [(.int p1)]))
      refine Done.step (fun t k => XS.iconst X0.here hx rfl (hb hby d1_38) k) ?_
      show Done p e below s _ _ _ (s₁.setTop (mkF m 39 #[.val (.int p1), .val (.int p2)] [(.int (2 : Int32)), (.int p1)]))
      by_cases c5 : p1 = (2 : Int32)
      · refine Done.step (fun t k => XS.icmpNo X0.here hx rfl (hb hby d1_39) rfl (teq c5).2 k) ?_
        show Done p e below s _ _ _ (s₁.setTop (mkF m 42 #[.val (.int p1), .val (.int p2)] []))
        refine Done.step (fun t k => XS.iloadN X0.here hx rfl (hb hby d1_42) rfl k) ?_
        show Done p e below s _ _ _ (s₁.setTop (mkF m 43 #[.val (.int p1), .val (.int p2)] [(.int p2)]))
        by_cases c6 : p2 = (0 : Int32)
        · refine Done.step (fun t k => XS.ifYes X0.here hx rfl (pc0 := 43) (pc' := 52) rfl (hb hby d1_43) rfl ((if0 _ _).trans (teq c6).1) (by decide) (by decide) k) ?_
          show Done p e below s _ _ _ (s₁.setTop (mkF m 52 #[.val (.int p1), .val (.int p2)] []))
          refine Done.step (X0.ldc2Long hx hown (mvT hZ (hw _ (List.mem_of_getElem? (i := 27) rfl))) (g := (mkF m 52 #[.val (.int p1), .val (.int p2)] [])) rfl (hb hby d1_52)) ?_
          show Done p e below s _ _ _ (s₁.setTop (mkF m 55 #[.val (.int p1), .val (.int p2)] [(.long (-32768 : Int64))]))
          exact Done.long X0 hx hlk hret (hb hby d1_55) (by decide) (by decide) ⟨by rw [show F1 p1 p2 = (-32768 : Int64) from by unfold F1; rw [if_neg c1, if_neg c3, if_pos c5, if_pos c6]] <;> rfl, N0, e0⟩
        · refine Done.step (fun t k => XS.ifNo X0.here hx rfl (hb hby d1_43) rfl ((if0 _ _).trans (feq c6).1) k) ?_
          show Done p e below s _ _ _ (s₁.setTop (mkF m 46 #[.val (.int p1), .val (.int p2)] []))
          refine Done.step (X0.ldc2Long hx hown (mvT hZ (hw _ (List.mem_of_getElem? (i := 25) rfl))) (g := (mkF m 46 #[.val (.int p1), .val (.int p2)] [])) rfl (hb hby d1_46)) ?_
          show Done p e below s _ _ _ (s₁.setTop (mkF m 49 #[.val (.int p1), .val (.int p2)] [(.long (32767 : Int64))]))
          refine Done.step (fun t k => XS.goto X0.here hx rfl (pc0 := 49) (pc' := 55) rfl (hb hby d1_49) (by decide) (by decide) k) ?_
          show Done p e below s _ _ _ (s₁.setTop (mkF m 55 #[.val (.int p1), .val (.int p2)] [(.long (32767 : Int64))]))
          exact Done.long X0 hx hlk hret (hb hby d1_55) (by decide) (by decide) ⟨by rw [show F1 p1 p2 = (32767 : Int64) from by unfold F1; rw [if_neg c1, if_neg c3, if_pos c5, if_neg c6]] <;> rfl, N0, e0⟩
      · refine Done.step (fun t k => XS.icmpYes X0.here hx rfl (pc0 := 39) (pc' := 56) rfl (hb hby d1_39) rfl (feq c5).2 (by decide) (by decide) k) ?_
        show Done p e below s _ _ _ (s₁.setTop (mkF m 56 #[.val (.int p1), .val (.int p2)] []))
        refine Done.step (fun t k => XS.iloadN X0.here hx rfl (hb hby d1_56) rfl k) ?_
        show Done p e below s _ _ _ (s₁.setTop (mkF m 57 #[.val (.int p1), .val (.int p2)] [(.int p2)]))
        by_cases c7 : p2 = (0 : Int32)
        · refine Done.step (fun t k => XS.ifYes X0.here hx rfl (pc0 := 57) (pc' := 66) rfl (hb hby d1_57) rfl ((if0 _ _).trans (teq c7).1) (by decide) (by decide) k) ?_
          show Done p e below s _ _ _ (s₁.setTop (mkF m 66 #[.val (.int p1), .val (.int p2)] []))
          refine Done.step (X0.ldc2Long hx hown (mvT hZ (hw _ (List.mem_of_getElem? (i := 24) rfl))) (g := (mkF m 66 #[.val (.int p1), .val (.int p2)] [])) rfl (hb hby d1_66)) ?_
          show Done p e below s _ _ _ (s₁.setTop (mkF m 69 #[.val (.int p1), .val (.int p2)] [(.long (-128 : Int64))]))
          exact Done.long X0 hx hlk hret (hb hby d1_69) (by decide) (by decide) ⟨by rw [show F1 p1 p2 = (-128 : Int64) from by unfold F1; rw [if_neg c1, if_neg c3, if_neg c5, if_pos c7]] <;> rfl, N0, e0⟩
        · refine Done.step (fun t k => XS.ifNo X0.here hx rfl (hb hby d1_57) rfl ((if0 _ _).trans (feq c7).1) k) ?_
          show Done p e below s _ _ _ (s₁.setTop (mkF m 60 #[.val (.int p1), .val (.int p2)] []))
          refine Done.step (X0.ldc2Long hx hown (mvT hZ (hw _ (List.mem_of_getElem? (i := 26) rfl))) (g := (mkF m 60 #[.val (.int p1), .val (.int p2)] [])) rfl (hb hby d1_60)) ?_
          show Done p e below s _ _ _ (s₁.setTop (mkF m 63 #[.val (.int p1), .val (.int p2)] [(.long (127 : Int64))]))
          refine Done.step (fun t k => XS.goto X0.here hx rfl (pc0 := 63) (pc' := 69) rfl (hb hby d1_63) (by decide) (by decide) k) ?_
          show Done p e below s _ _ _ (s₁.setTop (mkF m 69 #[.val (.int p1), .val (.int p2)] [(.long (127 : Int64))]))
          exact Done.long X0 hx hlk hret (hb hby d1_69) (by decide) (by decide) ⟨by rw [show F1 p1 p2 = (127 : Int64) from by unfold F1; rw [if_neg c1, if_neg c3, if_neg c5, if_neg c7]] <;> rfl, N0, e0⟩
theorem d2_0 : decode prog_17_method_11_code 0 = .ok (.lload_n 1, 1) := by decide +kernel
theorem d2_1 : decode prog_17_method_11_code 1 = .ok (.aload_n 0, 1) := by decide +kernel
theorem d2_2 : decode prog_17_method_11_code 2 = .ok (.getfield 75, 3) := by decide +kernel
theorem d2_5 : decode prog_17_method_11_code 5 = .ok (.lcmp, 1) := by decide +kernel
theorem d2_6 : decode prog_17_method_11_code 6 = .ok (.ifCond .lt 16, 3) := by decide +kernel
theorem d2_9 : decode prog_17_method_11_code 9 = .ok (.lload_n 1, 1) := by decide +kernel
theorem d2_10 : decode prog_17_method_11_code 10 = .ok (.aload_n 0, 1) := by decide +kernel
theorem d2_11 : decode prog_17_method_11_code 11 = .ok (.getfield 79, 3) := by decide +kernel
theorem d2_14 : decode prog_17_method_11_code 14 = .ok (.lcmp, 1) := by decide +kernel
theorem d2_15 : decode prog_17_method_11_code 15 = .ok (.ifCond .gt 7, 3) := by decide +kernel
theorem d2_18 : decode prog_17_method_11_code 18 = .ok (.iconst 1, 1) := by decide +kernel
theorem d2_19 : decode prog_17_method_11_code 19 = .ok (.goto 4, 3) := by decide +kernel
theorem d2_22 : decode prog_17_method_11_code 22 = .ok (.iconst 0, 1) := by decide +kernel
theorem d2_23 : decode prog_17_method_11_code 23 = .ok (.ireturn, 1) := by decide +kernel
def F2 (q2 : Int64) (u0_min : Int64) (u0_max : Int64) : Int32 := (if q2 < u0_min then (0 : Int32)
  else (if u0_max < q2 then (0 : Int32)
    else (1 : Int32)))
theorem pn_2 : plainName "com/example/taulu/taulu/bind/Scalar" = true := by first | (simp [plainName, overriddenIn]; done) | decide +kernel
theorem ef_2 (m : MethodId) (a1 : Addr) (q2 : Int64) : entryFrame m #[(.ref a1), (.long q2)] 3 = mkF m 0 #[.val (.ref a1), .val (.long q2), .second] [] := by first | (simp [entryFrame, mkF, argsToLocals, Value.category]; done) | rfl
def Qrm2 (Z : State) (a1 : Addr) (q2 : Int64) (u0_min : Int64) (u0_max : Int64) (h0 : Heap) (n0 : Nat) : Option Value → Heap → List Loc → Prop := fun v h L => v = some (.int (F2 q2 u0_min u0_max)) ∧ Fr n0 L ∧ h = h0
set_option maxRecDepth 65536 in
set_option maxHeartbeats 40000000 in
theorem rm2 (l : Launch) (Z : State) (a0 : Array Value) (hw : ∀ d ∈ tables_1, d.before a0 Z = true) (ws : List Jvm.Cond) (a1 : Addr) (q2 : Int64) (u0_min : Int64) (u0_max : Int64) (h0 : Heap) (n0 : Nat) (Z0 : n0 ≤ h0.size) (F0_min : Fld Z h0 a1 "com/example/taulu/taulu/bind/Scalar" "min" "J" (.long u0_min)) (F0_max : Fld Z h0 a1 "com/example/taulu/taulu/bind/Scalar" "max" "J" (.long u0_max)) :
    MetFree l (⟨"com/example/taulu/taulu/bind/Scalar", "holds", "(J)Z"⟩ : MethodName) (head1 (Jvm.Cond.code (⟨"com/example/taulu/taulu/bind/Scalar", "holds", "(J)Z"⟩ : MethodName) prog_17_method_11_code 3 (some .boolean) :: ws) ({ frames := 0, cells := 0, slots := 0, locals := 0 } : Room)) (fun a U => a = #[(.ref a1), (.long q2)] ∧ Z.Warmed39 U.vm ∧ U.heap = h0) (fun _ _ _ _ _ => True) (fun _ U o U' => ∃ v L, o = .returned v ∧ Qrm2 Z a1 q2 u0_min u0_max h0 n0 v U'.heap L ∧ FrameEnd U o U' L ({ frames := 0, cells := 0, slots := 0, locals := 0 } : Room).cells ({ frames := 0, cells := 0, slots := 0, locals := 0 } : Room).slots) := by
  refine MetFree.of_bodySF (plainFor_of_name pn_2) hisR ?_
  intro p e s m args below meth c s₁ Bd hml0 hP hK
  obtain ⟨rfl, hZ, hh⟩ := hP
  have hx := Bd.exec
  have hby := Bd.bytes
  have hml : c.maxLocals = 3 := hml0
  have hown : s.vm.findClass "com/example/taulu/taulu/bind/Scalar" = some m.cls := findClass_of_methodNamed Bd.named
  have hnm := (name_of_methodNamed Bd.named Bd.method).1
  have hlk : meth.locks = false := BodyLoose.notSynchronized Bd
  have hret := Bd.returns
  have X0 : Stand p l e ({ frames := 0, cells := 0, slots := 0, locals := 0 } : Room) s m #[(.ref a1), (.long q2)] below meth c s₁ [] 0 0 := Stand.of_body Bd
  have e0 : s₁.heap = h0 := by rw [← hh, Bd.state]; rfl
  have N0 := Fr.nil n0
  show Done p e below s (Qrm2 Z a1 q2 u0_min u0_max h0 n0) ({ frames := 0, cells := 0, slots := 0, locals := 0 } : Room).cells ({ frames := 0, cells := 0, slots := 0, locals := 0 } : Room).slots (s₁.setTop (entryFrame m #[(.ref a1), (.long q2)] 3))
  refine Done.step (fun t k => castTop (ef_2 m a1 q2) k) ?_
  show Done p e below s _ _ _ (s₁.setTop (mkF m 0 #[.val (.ref a1), .val (.long q2), .second] []))
  refine Done.step (fun t k => XS.lloadN X0.here hx rfl (hb hby d2_0) rfl k) ?_
  show Done p e below s _ _ _ (s₁.setTop (mkF m 1 #[.val (.ref a1), .val (.long q2), .second] [(.long q2)]))
  refine Done.step (fun t k => XS.aloadN X0.here hx rfl (hb hby d2_1) rfl rfl k) ?_
  show Done p e below s _ _ _ (s₁.setTop (mkF m 2 #[.val (.ref a1), .val (.long q2), .second] [(.ref a1), (.long q2)]))
  obtain ⟨T1, X1, e1, st1⟩ := getF X0 hx hZ hown (host := "") (Or.inl (hw _ (List.mem_of_getElem? (i := 14) rfl))) Via.refl e0 F0_min (g := (mkF m 2 #[.val (.ref a1), .val (.long q2), .second] [(.ref a1), (.long q2)])) rfl rfl (hb hby d2_2)
  refine Done.step st1 ?_
  show Done p e below s _ _ _ (T1.setTop (mkF m 5 #[.val (.ref a1), .val (.long q2), .second] [(.long u0_min), (.long q2)]))
  refine Done.step (fun t k => XS.lcmp X1.here hx rfl (hb hby d2_5) rfl k) ?_
  show Done p e below s _ _ _ (T1.setTop (mkF m 6 #[.val (.ref a1), .val (.long q2), .second] [(.int (lcmpW q2 u0_min))]))
  by_cases c2 : q2 < u0_min
  · refine Done.step (fun t k => XS.ifYes X1.here hx rfl (pc0 := 6) (pc' := 22) rfl (hb hby d2_6) rfl ((if0 _ _).trans (tlt ((lw_lt _ _).mpr c2)).1) (by decide) (by decide) k) ?_
    show Done p e below s _ _ _ (T1.setTop (mkF m 22 #[.val (.ref a1), .val (.long q2), .second] []))
    refine Done.step (fun t k => XS.iconst X1.here hx rfl (hb hby d2_22) k) ?_
    show Done p e below s _ _ _ (T1.setTop (mkF m 23 #[.val (.ref a1), .val (.long q2), .second] [(.int (0 : Int32))]))
    exact Done.narr X1 hx hlk hret (by simp) (hb hby d2_23) (by decide) (by decide) ⟨by rw [show F2 q2 u0_min u0_max = (0 : Int32) from by unfold F2; rw [if_pos c2]] <;> rfl, N0, e1⟩
  · refine Done.step (fun t k => XS.ifNo X1.here hx rfl (hb hby d2_6) rfl ((if0 _ _).trans (flt (fun q_ => c2 ((lw_lt _ _).mp q_))).1) k) ?_
    show Done p e below s _ _ _ (T1.setTop (mkF m 9 #[.val (.ref a1), .val (.long q2), .second] []))
    refine Done.step (fun t k => XS.lloadN X1.here hx rfl (hb hby d2_9) rfl k) ?_
    show Done p e below s _ _ _ (T1.setTop (mkF m 10 #[.val (.ref a1), .val (.long q2), .second] [(.long q2)]))
    refine Done.step (fun t k => XS.aloadN X1.here hx rfl (hb hby d2_10) rfl rfl k) ?_
    show Done p e below s _ _ _ (T1.setTop (mkF m 11 #[.val (.ref a1), .val (.long q2), .second] [(.ref a1), (.long q2)]))
    obtain ⟨T3, X3, e3, st3⟩ := getF X1 hx hZ hown (host := "") (Or.inl (hw _ (List.mem_of_getElem? (i := 16) rfl))) Via.refl e1 F0_max (g := (mkF m 11 #[.val (.ref a1), .val (.long q2), .second] [(.ref a1), (.long q2)])) rfl rfl (hb hby d2_11)
    refine Done.step st3 ?_
    show Done p e below s _ _ _ (T3.setTop (mkF m 14 #[.val (.ref a1), .val (.long q2), .second] [(.long u0_max), (.long q2)]))
    refine Done.step (fun t k => XS.lcmp X3.here hx rfl (hb hby d2_14) rfl k) ?_
    show Done p e below s _ _ _ (T3.setTop (mkF m 15 #[.val (.ref a1), .val (.long q2), .second] [(.int (lcmpW q2 u0_max))]))
    by_cases c4 : u0_max < q2
    · refine Done.step (fun t k => XS.ifYes X3.here hx rfl (pc0 := 15) (pc' := 22) rfl (hb hby d2_15) rfl ((if0 _ _).trans (tlt ((lw_gt _ _).mpr c4)).2.2.1) (by decide) (by decide) k) ?_
      show Done p e below s _ _ _ (T3.setTop (mkF m 22 #[.val (.ref a1), .val (.long q2), .second] []))
      refine Done.step (fun t k => XS.iconst X3.here hx rfl (hb hby d2_22) k) ?_
      show Done p e below s _ _ _ (T3.setTop (mkF m 23 #[.val (.ref a1), .val (.long q2), .second] [(.int (0 : Int32))]))
      exact Done.narr X3 hx hlk hret (by simp) (hb hby d2_23) (by decide) (by decide) ⟨by rw [show F2 q2 u0_min u0_max = (0 : Int32) from by unfold F2; rw [if_neg c2, if_pos c4]] <;> rfl, N0, e3⟩
    · refine Done.step (fun t k => XS.ifNo X3.here hx rfl (hb hby d2_15) rfl ((if0 _ _).trans (flt (fun q_ => c4 ((lw_gt _ _).mp q_))).2.2.1) k) ?_
      show Done p e below s _ _ _ (T3.setTop (mkF m 18 #[.val (.ref a1), .val (.long q2), .second] []))
      refine Done.step (fun t k => XS.iconst X3.here hx rfl (hb hby d2_18) k) ?_
      show Done p e below s _ _ _ (T3.setTop (mkF m 19 #[.val (.ref a1), .val (.long q2), .second] [(.int (1 : Int32))]))
      refine Done.step (fun t k => XS.goto X3.here hx rfl (pc0 := 19) (pc' := 23) rfl (hb hby d2_19) (by decide) (by decide) k) ?_
      show Done p e below s _ _ _ (T3.setTop (mkF m 23 #[.val (.ref a1), .val (.long q2), .second] [(.int (1 : Int32))]))
      exact Done.narr X3 hx hlk hret (by simp) (hb hby d2_23) (by decide) (by decide) ⟨by rw [show F2 q2 u0_min u0_max = (1 : Int32) from by unfold F2; rw [if_neg c2, if_neg c4]] <;> rfl, N0, e3⟩
theorem tl64_m9223372036854775808 : (-9223372036854775808 : Int64).toInt = -9223372036854775808 := by decide
theorem tl64_m2147483648 : (-2147483648 : Int64).toInt = -2147483648 := by decide
theorem tl64_m32768 : (-32768 : Int64).toInt = -32768 := by decide
theorem tl64_m128 : (-128 : Int64).toInt = -128 := by decide
theorem tl64_9223372036854775807 : (9223372036854775807 : Int64).toInt = 9223372036854775807 := by decide
theorem tl64_2147483647 : (2147483647 : Int64).toInt = 2147483647 := by decide
theorem tl64_32767 : (32767 : Int64).toInt = 32767 := by decide
theorem tl64_127 : (127 : Int64).toInt = 127 := by decide
theorem own_int_1 (v : Int64) (h : v = ((v).toInt32).toInt64) : (F2 v (-2147483648 : Int64) (2147483647 : Int64)) = (1 : Int32) := by
  have a := And.intro (c_l2i v) (rng32 v.toInt32)
  have e := congrArg Int64.toInt h
  rw [c_i2l] at e
  unfold F2
  simp only [Int64.lt_iff_toInt_lt, tl64_m2147483648, tl64_2147483647]
  repeat' split
  all_goals first | rfl | (exfalso; omega)
theorem own_int_0 (v : Int64) (h : ¬ v = ((v).toInt32).toInt64) : (F2 v (-2147483648 : Int64) (2147483647 : Int64)) = (0 : Int32) := by
  have a := And.intro (c_l2i v) (rng32 v.toInt32)
  have e : ¬ v.toInt = (((v).toInt32).toInt64).toInt := fun q => h (Int64.toInt_inj.mp q)
  rw [c_i2l] at e
  unfold F2
  simp only [Int64.lt_iff_toInt_lt, tl64_m2147483648, tl64_2147483647]
  repeat' split
  all_goals first | rfl | (exfalso; omega)
theorem own_short_1 (v : Int64) (h : v = (((v).toInt32).toInt16.toInt32).toInt64) : (F2 v (-32768 : Int64) (32767 : Int64)) = (1 : Int32) := by
  have a := And.intro (c_l2i v) (c_i2s v.toInt32)
  have e := congrArg Int64.toInt h
  rw [c_i2l] at e
  unfold F2
  simp only [Int64.lt_iff_toInt_lt, tl64_m32768, tl64_32767]
  repeat' split
  all_goals first | rfl | (exfalso; omega)
theorem own_short_0 (v : Int64) (h : ¬ v = (((v).toInt32).toInt16.toInt32).toInt64) : (F2 v (-32768 : Int64) (32767 : Int64)) = (0 : Int32) := by
  have a := And.intro (c_l2i v) (c_i2s v.toInt32)
  have e : ¬ v.toInt = ((((v).toInt32).toInt16.toInt32).toInt64).toInt := fun q => h (Int64.toInt_inj.mp q)
  rw [c_i2l] at e
  unfold F2
  simp only [Int64.lt_iff_toInt_lt, tl64_m32768, tl64_32767]
  repeat' split
  all_goals first | rfl | (exfalso; omega)
theorem own_byte_1 (v : Int64) (h : v = (((v).toInt32).toInt8.toInt32).toInt64) : (F2 v (-128 : Int64) (127 : Int64)) = (1 : Int32) := by
  have a := And.intro (c_l2i v) (c_i2b v.toInt32)
  have e := congrArg Int64.toInt h
  rw [c_i2l] at e
  unfold F2
  simp only [Int64.lt_iff_toInt_lt, tl64_m128, tl64_127]
  repeat' split
  all_goals first | rfl | (exfalso; omega)
theorem own_byte_0 (v : Int64) (h : ¬ v = (((v).toInt32).toInt8.toInt32).toInt64) : (F2 v (-128 : Int64) (127 : Int64)) = (0 : Int32) := by
  have a := And.intro (c_l2i v) (c_i2b v.toInt32)
  have e : ¬ v.toInt = ((((v).toInt32).toInt8.toInt32).toInt64).toInt := fun q => h (Int64.toInt_inj.mp q)
  rw [c_i2l] at e
  unfold F2
  simp only [Int64.lt_iff_toInt_lt, tl64_m128, tl64_127]
  repeat' split
  all_goals first | rfl | (exfalso; omega)
theorem own_long (v : Int64) : (F2 v (-9223372036854775808 : Int64) (9223372036854775807 : Int64)) = (1 : Int32) := by
  have r := rng64 v
  unfold F2
  simp only [Int64.lt_iff_toInt_lt, tl64_m9223372036854775808, tl64_9223372036854775807]
  repeat' split
  all_goals first | rfl | (exfalso; omega)
set_option maxRecDepth 65536 in
set_option maxHeartbeats 40000000 in
theorem blk42 {p : Program} {l : Launch} {e : Env} {s : State} {m : MethodId} {args : Array Value} {below : List Frame} {meth : Method} {c : Code} {T : State} {locs : List Loc} {Z : State} {a0 : Array Value} {h0 : Heap} {n0 : Nat} (p1 : Int32) (q2 : Int64) (p3 : Int32) (i4 : Int32) (j5 : Int64) (s7 s8 : Slot) (sx_LONG : Addr) (sx_BYTE : Addr) (sx_SHORT : Addr) (sx_INT : Addr)
    (X0 : Stand p l e room_1 s m args below meth c T locs 0 0) (hx : p.tables.exec = Jvm.exec) (hZ : Z.Warmed39 s.vm) (hw : ∀ d ∈ tables_1, d.before a0 Z = true) (hby : c.code = code) (hml : c.maxLocals = 9) (hown : s.vm.findClass "com/example/taulu/taulu/bind/ScalarHoldsPinLaw" = some m.cls) (hlk : meth.locks = false) (hret : meth.sig.returnType = ret) (hnm : meth.name = "law") (N0 : Fr n0 locs) (Z0 : n0 ≤ h0.size) (e0 : T.heap = h0) (hs : (s7 = Slot.unset ∧ s8 = Slot.unset) ∨ ∃ q : Int64, s7 = .val (.long q) ∧ s8 = .second) (S_sx_LONG : Sta Z h0 "com/example/taulu/taulu/bind/Scalar" "LONG" "Lcom/example/taulu/taulu/bind/Scalar;" (.ref sx_LONG)) (E_sx_LONG : Exa Z h0 sx_LONG "com/example/taulu/taulu/bind/Scalar") (S_sx_BYTE : Sta Z h0 "com/example/taulu/taulu/bind/Scalar" "BYTE" "Lcom/example/taulu/taulu/bind/Scalar;" (.ref sx_BYTE)) (E_sx_BYTE : Exa Z h0 sx_BYTE "com/example/taulu/taulu/bind/Scalar") (S_sx_SHORT : Sta Z h0 "com/example/taulu/taulu/bind/Scalar" "SHORT" "Lcom/example/taulu/taulu/bind/Scalar;" (.ref sx_SHORT)) (E_sx_SHORT : Exa Z h0 sx_SHORT "com/example/taulu/taulu/bind/Scalar") (S_sx_INT : Sta Z h0 "com/example/taulu/taulu/bind/Scalar" "INT" "Lcom/example/taulu/taulu/bind/Scalar;" (.ref sx_INT)) (E_sx_INT : Exa Z h0 sx_INT "com/example/taulu/taulu/bind/Scalar") (F_sx_LONG_min : Fld Z h0 sx_LONG "com/example/taulu/taulu/bind/Scalar" "min" "J" (.long (-9223372036854775808 : Int64))) (F_sx_LONG_max : Fld Z h0 sx_LONG "com/example/taulu/taulu/bind/Scalar" "max" "J" (.long (9223372036854775807 : Int64))) (F_sx_BYTE_min : Fld Z h0 sx_BYTE "com/example/taulu/taulu/bind/Scalar" "min" "J" (.long (-128 : Int64))) (F_sx_BYTE_max : Fld Z h0 sx_BYTE "com/example/taulu/taulu/bind/Scalar" "max" "J" (.long (127 : Int64))) (F_sx_SHORT_min : Fld Z h0 sx_SHORT "com/example/taulu/taulu/bind/Scalar" "min" "J" (.long (-32768 : Int64))) (F_sx_INT_min : Fld Z h0 sx_INT "com/example/taulu/taulu/bind/Scalar" "min" "J" (.long (-2147483648 : Int64))) (F_sx_INT_max : Fld Z h0 sx_INT "com/example/taulu/taulu/bind/Scalar" "max" "J" (.long (2147483647 : Int64))) (F_sx_SHORT_max : Fld Z h0 sx_SHORT "com/example/taulu/taulu/bind/Scalar" "max" "J" (.long (32767 : Int64))) :
    Done p e below s (fun v h L => v = some (.int 1) ∧ Fr n0 L) room_1.cells room_1.slots (T.setTop (mkF m 42 #[.val (.int p1), .val (.long q2), .second, .val (.int p3), .val (.int i4), .val (.long j5), .second, s7, s8] [])) := by
  show Done p e below s _ _ _ (T.setTop (mkF m 42 #[.val (.int p1), .val (.long q2), .second, .val (.int p3), .val (.int i4), .val (.long j5), .second, s7, s8] []))
  refine Done.step (fun t k => XS.iload X0.here hx rfl (hb hby at_42) rfl k) ?_
  show Done p e below s _ _ _ (T.setTop (mkF m 44 #[.val (.int p1), .val (.long q2), .second, .val (.int p3), .val (.int i4), .val (.long j5), .second, s7, s8] [(.int i4)]))
  by_cases c1 : i4 = (0 : Int32)
  · refine Done.step (fun t k => XS.ifNo X0.here hx rfl (hb hby at_44) rfl ((if0 _ _).trans (teq c1).2) k) ?_
    show Done p e below s _ _ _ (T.setTop (mkF m 47 #[.val (.int p1), .val (.long q2), .second, .val (.int p3), .val (.int i4), .val (.long j5), .second, s7, s8] []))
    obtain ⟨T2, X2, e2, st2⟩ := getS2 X0 hx hZ hown (host := "") (Or.inl (hw _ (List.mem_of_getElem? (i := 6) rfl))) Via.refl e0 S_sx_LONG (g := (mkF m 47 #[.val (.int p1), .val (.long q2), .second, .val (.int p3), .val (.int i4), .val (.long j5), .second, s7, s8] [])) rfl (hb hby at_47)
    refine Done.step st2 ?_
    show Done p e below s _ _ _ (T2.setTop (mkF m 50 #[.val (.int p1), .val (.long q2), .second, .val (.int p3), .val (.int i4), .val (.long j5), .second, s7, s8] [(.ref sx_LONG)]))
    refine Done.step (fun t k => XS.astore X2.here hx rfl (hb hby at_50) rfl rfl (l' := #[.val (.int p1), .val (.long q2), .second, .val (.int p3), .val (.int i4), .val (.long j5), .second, .val (.ref sx_LONG), .unset]) (by rcases hs with ⟨rfl, rfl⟩ | ⟨q, rfl, rfl⟩ <;> rfl) k) ?_
    show Done p e below s _ _ _ (T2.setTop (mkF m 52 #[.val (.int p1), .val (.long q2), .second, .val (.int p3), .val (.int i4), .val (.long j5), .second, .val (.ref sx_LONG), .unset] []))
    refine Done.step (fun t k => XS.iconst X2.here hx rfl (hb hby at_52) k) ?_
    show Done p e below s _ _ _ (T2.setTop (mkF m 53 #[.val (.int p1), .val (.long q2), .second, .val (.int p3), .val (.int i4), .val (.long j5), .second, .val (.ref sx_LONG), .unset] [(.int (1 : Int32))]))
    refine Done.step (fun t k => XS.istore X2.here hx rfl (hb hby at_53) rfl (l' := #[.val (.int p1), .val (.long q2), .second, .val (.int p3), .val (.int i4), .val (.long j5), .second, .val (.ref sx_LONG), .val (.int (1 : Int32))]) rfl k) ?_
    show Done p e below s _ _ _ (T2.setTop (mkF m 55 #[.val (.int p1), .val (.long q2), .second, .val (.int p3), .val (.int i4), .val (.long j5), .second, .val (.ref sx_LONG), .val (.int (1 : Int32))] []))
    refine Done.step (fun t k => XS.goto X2.here hx rfl (pc0 := 55) (pc' := 144) rfl (hb hby at_55) (by decide) (by decide) k) ?_
    show Done p e below s _ _ _ (T2.setTop (mkF m 144 #[.val (.int p1), .val (.long q2), .second, .val (.int p3), .val (.int i4), .val (.long j5), .second, .val (.ref sx_LONG), .val (.int (1 : Int32))] []))
    refine Done.step (fun t k => XS.aload X2.here hx rfl (hb hby at_144) rfl rfl k) ?_
    show Done p e below s _ _ _ (T2.setTop (mkF m 146 #[.val (.int p1), .val (.long q2), .second, .val (.int p3), .val (.int i4), .val (.long j5), .second, .val (.ref sx_LONG), .val (.int (1 : Int32))] [(.ref sx_LONG)]))
    refine Done.step (fun t k => XS.lload X2.here hx rfl (hb hby at_146) rfl k) ?_
    show Done p e below s _ _ _ (T2.setTop (mkF m 148 #[.val (.int p1), .val (.long q2), .second, .val (.int p3), .val (.int i4), .val (.long j5), .second, .val (.ref sx_LONG), .val (.int (1 : Int32))] [(.long j5), (.ref sx_LONG)]))
    obtain ⟨cq3, kq3, q3a, q3b, q3c⟩ := isOf hZ e2 E_sx_LONG
    obtain ⟨v3, _, ⟨T3, L3, k3, n3⟩, -, X3, ⟨Lc3, hQ3, l3, y3, z3⟩, st3⟩ := X2.virtualBack hx (y := (⟨"com/example/taulu/taulu/bind/Scalar", "holds", "(J)Z"⟩ : MethodName)) (z := (⟨"com/example/taulu/taulu/bind/Scalar", "holds", "(J)Z"⟩ : MethodName)) hown (mvT hZ (hw _ (List.mem_of_getElem? (i := 9) rfl))) (mvT hZ (hw _ (List.mem_of_getElem? (i := 10) rfl))) (notFace_of_selects (args := #[]) (mvT hZ (hw _ (List.mem_of_getElem? (i := 12) rfl)))) (mvT hZ (hw _ (List.mem_of_getElem? (i := 12) rfl))) (mvT hZ (hw _ (List.mem_of_getElem? (i := 11) rfl))) (by decide) (backOf (W := 0) (rm2 l Z a0 hw [] sx_LONG j5 (-9223372036854775808 : Int64) (9223372036854775807 : Int64) h0 n0 Z0 F_sx_LONG_min F_sx_LONG_max) hZ (hw _ (List.mem_of_getElem? (i := 13) rfl)) (hw _ (List.mem_of_getElem? (i := 7) rfl)) (by decide) (by decide)) q3a q3c (g := (mkF m 148 #[.val (.int p1), .val (.long q2), .second, .val (.int p3), .val (.int i4), .val (.long j5), .second, .val (.ref sx_LONG), .val (.int (1 : Int32))] [(.long j5), (.ref sx_LONG)])) rfl (by rw [hml]; rfl) (Steps.refl _) (argsL := [(.long j5)]) (rest := []) (lenOf pd_0 rfl) rfl (by show 2 * 0 + _ ≤ _; exact Nat.le_of_eq rfl) (hb hby at_148) (fun _ _ => ⟨rfl, e2, (by decide : 0 + 0 ≤ _), (by decide : 0 + 0 ≤ _)⟩)
    dsimp only [Pt.U, Pt.locs, Pt.cells, Pt.slots] at X3 l3 y3 z3 st3 hQ3
    subst l3 y3 z3
    refine Done.far st3 ?_
    obtain ⟨rfl, N3q, e3⟩ := hQ3
    have N3 := Fr.app N0 N3q
    show Done p e below s _ _ _ (T3.setTop (mkF m 151 #[.val (.int p1), .val (.long q2), .second, .val (.int p3), .val (.int i4), .val (.long j5), .second, .val (.ref sx_LONG), .val (.int (1 : Int32))] [(.int (F2 j5 (-9223372036854775808 : Int64) (9223372036854775807 : Int64)))]))
    refine Done.step (fun t k => XS.iload X3.here hx rfl (hb hby at_151) rfl k) ?_
    show Done p e below s _ _ _ (T3.setTop (mkF m 153 #[.val (.int p1), .val (.long q2), .second, .val (.int p3), .val (.int i4), .val (.long j5), .second, .val (.ref sx_LONG), .val (.int (1 : Int32))] [(.int (1 : Int32)), (.int (F2 j5 (-9223372036854775808 : Int64) (9223372036854775807 : Int64)))]))
    refine Done.step (fun t k => XS.icmpNo X3.here hx rfl (hb hby at_153) rfl (teq (own_long j5)).2 k) ?_
    show Done p e below s _ _ _ (T3.setTop (mkF m 156 #[.val (.int p1), .val (.long q2), .second, .val (.int p3), .val (.int i4), .val (.long j5), .second, .val (.ref sx_LONG), .val (.int (1 : Int32))] []))
    refine Done.step (fun t k => XS.iconst X3.here hx rfl (hb hby at_156) k) ?_
    show Done p e below s _ _ _ (T3.setTop (mkF m 157 #[.val (.int p1), .val (.long q2), .second, .val (.int p3), .val (.int i4), .val (.long j5), .second, .val (.ref sx_LONG), .val (.int (1 : Int32))] [(.int (1 : Int32))]))
    refine Done.step (fun t k => XS.goto X3.here hx rfl (pc0 := 157) (pc' := 161) rfl (hb hby at_157) (by decide) (by decide) k) ?_
    show Done p e below s _ _ _ (T3.setTop (mkF m 161 #[.val (.int p1), .val (.long q2), .second, .val (.int p3), .val (.int i4), .val (.long j5), .second, .val (.ref sx_LONG), .val (.int (1 : Int32))] [(.int (1 : Int32))]))
    exact Done.narr X3 hx hlk hret (by simp) (hb hby at_161) (by decide) (by decide) ⟨rfl, N3⟩
  · refine Done.step (fun t k => XS.ifYes X0.here hx rfl (pc0 := 44) (pc' := 58) rfl (hb hby at_44) rfl ((if0 _ _).trans (feq c1).2) (by decide) (by decide) k) ?_
    show Done p e below s _ _ _ (T.setTop (mkF m 58 #[.val (.int p1), .val (.long q2), .second, .val (.int p3), .val (.int i4), .val (.long j5), .second, s7, s8] []))
    refine Done.step (fun t k => XS.iload X0.here hx rfl (hb hby at_58) rfl k) ?_
    show Done p e below s _ _ _ (T.setTop (mkF m 60 #[.val (.int p1), .val (.long q2), .second, .val (.int p3), .val (.int i4), .val (.long j5), .second, s7, s8] [(.int i4)]))
    refine Done.step (fun t k => XS.iconst X0.here hx rfl (hb hby at_60) k) ?_
    show Done p e below s _ _ _ (T.setTop (mkF m 61 #[.val (.int p1), .val (.long q2), .second, .val (.int p3), .val (.int i4), .val (.long j5), .second, s7, s8] [(.int (1 : Int32)), (.int i4)]))
    by_cases c4 : i4 = (1 : Int32)
    · refine Done.step (fun t k => XS.icmpNo X0.here hx rfl (hb hby at_61) rfl (teq c4).2 k) ?_
      show Done p e below s _ _ _ (T.setTop (mkF m 64 #[.val (.int p1), .val (.long q2), .second, .val (.int p3), .val (.int i4), .val (.long j5), .second, s7, s8] []))
      obtain ⟨T5, X5, e5, st5⟩ := getS2 X0 hx hZ hown (host := "") (Or.inl (hw _ (List.mem_of_getElem? (i := 22) rfl))) Via.refl e0 S_sx_INT (g := (mkF m 64 #[.val (.int p1), .val (.long q2), .second, .val (.int p3), .val (.int i4), .val (.long j5), .second, s7, s8] [])) rfl (hb hby at_64)
      refine Done.step st5 ?_
      show Done p e below s _ _ _ (T5.setTop (mkF m 67 #[.val (.int p1), .val (.long q2), .second, .val (.int p3), .val (.int i4), .val (.long j5), .second, s7, s8] [(.ref sx_INT)]))
      refine Done.step (fun t k => XS.astore X5.here hx rfl (hb hby at_67) rfl rfl (l' := #[.val (.int p1), .val (.long q2), .second, .val (.int p3), .val (.int i4), .val (.long j5), .second, .val (.ref sx_INT), .unset]) (by rcases hs with ⟨rfl, rfl⟩ | ⟨q, rfl, rfl⟩ <;> rfl) k) ?_
      show Done p e below s _ _ _ (T5.setTop (mkF m 69 #[.val (.int p1), .val (.long q2), .second, .val (.int p3), .val (.int i4), .val (.long j5), .second, .val (.ref sx_INT), .unset] []))
      refine Done.step (fun t k => XS.lload X5.here hx rfl (hb hby at_69) rfl k) ?_
      show Done p e below s _ _ _ (T5.setTop (mkF m 71 #[.val (.int p1), .val (.long q2), .second, .val (.int p3), .val (.int i4), .val (.long j5), .second, .val (.ref sx_INT), .unset] [(.long j5)]))
      refine Done.step (fun t k => XS.lload X5.here hx rfl (hb hby at_71) rfl k) ?_
      show Done p e below s _ _ _ (T5.setTop (mkF m 73 #[.val (.int p1), .val (.long q2), .second, .val (.int p3), .val (.int i4), .val (.long j5), .second, .val (.ref sx_INT), .unset] [(.long j5), (.long j5)]))
      refine Done.step (fun t k => XS.l2i X5.here hx rfl (hb hby at_73) rfl k) ?_
      show Done p e below s _ _ _ (T5.setTop (mkF m 74 #[.val (.int p1), .val (.long q2), .second, .val (.int p3), .val (.int i4), .val (.long j5), .second, .val (.ref sx_INT), .unset] [(.int (j5).toInt32), (.long j5)]))
      refine Done.step (fun t k => XS.i2l X5.here hx rfl (hb hby at_74) rfl k) ?_
      show Done p e below s _ _ _ (T5.setTop (mkF m 75 #[.val (.int p1), .val (.long q2), .second, .val (.int p3), .val (.int i4), .val (.long j5), .second, .val (.ref sx_INT), .unset] [(.long ((j5).toInt32).toInt64), (.long j5)]))
      refine Done.step (fun t k => XS.lcmp X5.here hx rfl (hb hby at_75) rfl k) ?_
      show Done p e below s _ _ _ (T5.setTop (mkF m 76 #[.val (.int p1), .val (.long q2), .second, .val (.int p3), .val (.int i4), .val (.long j5), .second, .val (.ref sx_INT), .unset] [(.int (lcmpW j5 ((j5).toInt32).toInt64))]))
      by_cases c6 : j5 = ((j5).toInt32).toInt64
      · refine Done.step (fun t k => XS.ifNo X5.here hx rfl (hb hby at_76) rfl ((if0 _ _).trans (teq ((lw_eq _ _).mpr c6)).2) k) ?_
        show Done p e below s _ _ _ (T5.setTop (mkF m 79 #[.val (.int p1), .val (.long q2), .second, .val (.int p3), .val (.int i4), .val (.long j5), .second, .val (.ref sx_INT), .unset] []))
        refine Done.step (fun t k => XS.iconst X5.here hx rfl (hb hby at_79) k) ?_
        show Done p e below s _ _ _ (T5.setTop (mkF m 80 #[.val (.int p1), .val (.long q2), .second, .val (.int p3), .val (.int i4), .val (.long j5), .second, .val (.ref sx_INT), .unset] [(.int (1 : Int32))]))
        refine Done.step (fun t k => XS.goto X5.here hx rfl (pc0 := 80) (pc' := 84) rfl (hb hby at_80) (by decide) (by decide) k) ?_
        show Done p e below s _ _ _ (T5.setTop (mkF m 84 #[.val (.int p1), .val (.long q2), .second, .val (.int p3), .val (.int i4), .val (.long j5), .second, .val (.ref sx_INT), .unset] [(.int (1 : Int32))]))
        refine Done.step (fun t k => XS.istore X5.here hx rfl (hb hby at_84) rfl (l' := #[.val (.int p1), .val (.long q2), .second, .val (.int p3), .val (.int i4), .val (.long j5), .second, .val (.ref sx_INT), .val (.int (1 : Int32))]) rfl k) ?_
        show Done p e below s _ _ _ (T5.setTop (mkF m 86 #[.val (.int p1), .val (.long q2), .second, .val (.int p3), .val (.int i4), .val (.long j5), .second, .val (.ref sx_INT), .val (.int (1 : Int32))] []))
        refine Done.step (fun t k => XS.goto X5.here hx rfl (pc0 := 86) (pc' := 144) rfl (hb hby at_86) (by decide) (by decide) k) ?_
        show Done p e below s _ _ _ (T5.setTop (mkF m 144 #[.val (.int p1), .val (.long q2), .second, .val (.int p3), .val (.int i4), .val (.long j5), .second, .val (.ref sx_INT), .val (.int (1 : Int32))] []))
        refine Done.step (fun t k => XS.aload X5.here hx rfl (hb hby at_144) rfl rfl k) ?_
        show Done p e below s _ _ _ (T5.setTop (mkF m 146 #[.val (.int p1), .val (.long q2), .second, .val (.int p3), .val (.int i4), .val (.long j5), .second, .val (.ref sx_INT), .val (.int (1 : Int32))] [(.ref sx_INT)]))
        refine Done.step (fun t k => XS.lload X5.here hx rfl (hb hby at_146) rfl k) ?_
        show Done p e below s _ _ _ (T5.setTop (mkF m 148 #[.val (.int p1), .val (.long q2), .second, .val (.int p3), .val (.int i4), .val (.long j5), .second, .val (.ref sx_INT), .val (.int (1 : Int32))] [(.long j5), (.ref sx_INT)]))
        obtain ⟨cq7, kq7, q7a, q7b, q7c⟩ := isOf hZ e5 E_sx_INT
        obtain ⟨v7, _, ⟨T7, L7, k7, n7⟩, -, X7, ⟨Lc7, hQ7, l7, y7, z7⟩, st7⟩ := X5.virtualBack hx (y := (⟨"com/example/taulu/taulu/bind/Scalar", "holds", "(J)Z"⟩ : MethodName)) (z := (⟨"com/example/taulu/taulu/bind/Scalar", "holds", "(J)Z"⟩ : MethodName)) hown (mvT hZ (hw _ (List.mem_of_getElem? (i := 9) rfl))) (mvT hZ (hw _ (List.mem_of_getElem? (i := 10) rfl))) (notFace_of_selects (args := #[]) (mvT hZ (hw _ (List.mem_of_getElem? (i := 12) rfl)))) (mvT hZ (hw _ (List.mem_of_getElem? (i := 12) rfl))) (mvT hZ (hw _ (List.mem_of_getElem? (i := 11) rfl))) (by decide) (backOf (W := 0) (rm2 l Z a0 hw [] sx_INT j5 (-2147483648 : Int64) (2147483647 : Int64) h0 n0 Z0 F_sx_INT_min F_sx_INT_max) hZ (hw _ (List.mem_of_getElem? (i := 13) rfl)) (hw _ (List.mem_of_getElem? (i := 7) rfl)) (by decide) (by decide)) q7a q7c (g := (mkF m 148 #[.val (.int p1), .val (.long q2), .second, .val (.int p3), .val (.int i4), .val (.long j5), .second, .val (.ref sx_INT), .val (.int (1 : Int32))] [(.long j5), (.ref sx_INT)])) rfl (by rw [hml]; rfl) (Steps.refl _) (argsL := [(.long j5)]) (rest := []) (lenOf pd_0 rfl) rfl (by show 2 * 0 + _ ≤ _; exact Nat.le_of_eq rfl) (hb hby at_148) (fun _ _ => ⟨rfl, e5, (by decide : 0 + 0 ≤ _), (by decide : 0 + 0 ≤ _)⟩)
        dsimp only [Pt.U, Pt.locs, Pt.cells, Pt.slots] at X7 l7 y7 z7 st7 hQ7
        subst l7 y7 z7
        refine Done.far st7 ?_
        obtain ⟨rfl, N7q, e7⟩ := hQ7
        have N7 := Fr.app N0 N7q
        show Done p e below s _ _ _ (T7.setTop (mkF m 151 #[.val (.int p1), .val (.long q2), .second, .val (.int p3), .val (.int i4), .val (.long j5), .second, .val (.ref sx_INT), .val (.int (1 : Int32))] [(.int (F2 j5 (-2147483648 : Int64) (2147483647 : Int64)))]))
        refine Done.step (fun t k => XS.iload X7.here hx rfl (hb hby at_151) rfl k) ?_
        show Done p e below s _ _ _ (T7.setTop (mkF m 153 #[.val (.int p1), .val (.long q2), .second, .val (.int p3), .val (.int i4), .val (.long j5), .second, .val (.ref sx_INT), .val (.int (1 : Int32))] [(.int (1 : Int32)), (.int (F2 j5 (-2147483648 : Int64) (2147483647 : Int64)))]))
        refine Done.step (fun t k => XS.icmpNo X7.here hx rfl (hb hby at_153) rfl (teq (own_int_1 j5 c6)).2 k) ?_
        show Done p e below s _ _ _ (T7.setTop (mkF m 156 #[.val (.int p1), .val (.long q2), .second, .val (.int p3), .val (.int i4), .val (.long j5), .second, .val (.ref sx_INT), .val (.int (1 : Int32))] []))
        refine Done.step (fun t k => XS.iconst X7.here hx rfl (hb hby at_156) k) ?_
        show Done p e below s _ _ _ (T7.setTop (mkF m 157 #[.val (.int p1), .val (.long q2), .second, .val (.int p3), .val (.int i4), .val (.long j5), .second, .val (.ref sx_INT), .val (.int (1 : Int32))] [(.int (1 : Int32))]))
        refine Done.step (fun t k => XS.goto X7.here hx rfl (pc0 := 157) (pc' := 161) rfl (hb hby at_157) (by decide) (by decide) k) ?_
        show Done p e below s _ _ _ (T7.setTop (mkF m 161 #[.val (.int p1), .val (.long q2), .second, .val (.int p3), .val (.int i4), .val (.long j5), .second, .val (.ref sx_INT), .val (.int (1 : Int32))] [(.int (1 : Int32))]))
        exact Done.narr X7 hx hlk hret (by simp) (hb hby at_161) (by decide) (by decide) ⟨rfl, N7⟩
      · refine Done.step (fun t k => XS.ifYes X5.here hx rfl (pc0 := 76) (pc' := 83) rfl (hb hby at_76) rfl ((if0 _ _).trans (feq (fun q_ => c6 ((lw_eq _ _).mp q_))).2) (by decide) (by decide) k) ?_
        show Done p e below s _ _ _ (T5.setTop (mkF m 83 #[.val (.int p1), .val (.long q2), .second, .val (.int p3), .val (.int i4), .val (.long j5), .second, .val (.ref sx_INT), .unset] []))
        refine Done.step (fun t k => XS.iconst X5.here hx rfl (hb hby at_83) k) ?_
        show Done p e below s _ _ _ (T5.setTop (mkF m 84 #[.val (.int p1), .val (.long q2), .second, .val (.int p3), .val (.int i4), .val (.long j5), .second, .val (.ref sx_INT), .unset] [(.int (0 : Int32))]))
        refine Done.step (fun t k => XS.istore X5.here hx rfl (hb hby at_84) rfl (l' := #[.val (.int p1), .val (.long q2), .second, .val (.int p3), .val (.int i4), .val (.long j5), .second, .val (.ref sx_INT), .val (.int (0 : Int32))]) rfl k) ?_
        show Done p e below s _ _ _ (T5.setTop (mkF m 86 #[.val (.int p1), .val (.long q2), .second, .val (.int p3), .val (.int i4), .val (.long j5), .second, .val (.ref sx_INT), .val (.int (0 : Int32))] []))
        refine Done.step (fun t k => XS.goto X5.here hx rfl (pc0 := 86) (pc' := 144) rfl (hb hby at_86) (by decide) (by decide) k) ?_
        show Done p e below s _ _ _ (T5.setTop (mkF m 144 #[.val (.int p1), .val (.long q2), .second, .val (.int p3), .val (.int i4), .val (.long j5), .second, .val (.ref sx_INT), .val (.int (0 : Int32))] []))
        refine Done.step (fun t k => XS.aload X5.here hx rfl (hb hby at_144) rfl rfl k) ?_
        show Done p e below s _ _ _ (T5.setTop (mkF m 146 #[.val (.int p1), .val (.long q2), .second, .val (.int p3), .val (.int i4), .val (.long j5), .second, .val (.ref sx_INT), .val (.int (0 : Int32))] [(.ref sx_INT)]))
        refine Done.step (fun t k => XS.lload X5.here hx rfl (hb hby at_146) rfl k) ?_
        show Done p e below s _ _ _ (T5.setTop (mkF m 148 #[.val (.int p1), .val (.long q2), .second, .val (.int p3), .val (.int i4), .val (.long j5), .second, .val (.ref sx_INT), .val (.int (0 : Int32))] [(.long j5), (.ref sx_INT)]))
        obtain ⟨cq8, kq8, q8a, q8b, q8c⟩ := isOf hZ e5 E_sx_INT
        obtain ⟨v8, _, ⟨T8, L8, k8, n8⟩, -, X8, ⟨Lc8, hQ8, l8, y8, z8⟩, st8⟩ := X5.virtualBack hx (y := (⟨"com/example/taulu/taulu/bind/Scalar", "holds", "(J)Z"⟩ : MethodName)) (z := (⟨"com/example/taulu/taulu/bind/Scalar", "holds", "(J)Z"⟩ : MethodName)) hown (mvT hZ (hw _ (List.mem_of_getElem? (i := 9) rfl))) (mvT hZ (hw _ (List.mem_of_getElem? (i := 10) rfl))) (notFace_of_selects (args := #[]) (mvT hZ (hw _ (List.mem_of_getElem? (i := 12) rfl)))) (mvT hZ (hw _ (List.mem_of_getElem? (i := 12) rfl))) (mvT hZ (hw _ (List.mem_of_getElem? (i := 11) rfl))) (by decide) (backOf (W := 0) (rm2 l Z a0 hw [] sx_INT j5 (-2147483648 : Int64) (2147483647 : Int64) h0 n0 Z0 F_sx_INT_min F_sx_INT_max) hZ (hw _ (List.mem_of_getElem? (i := 13) rfl)) (hw _ (List.mem_of_getElem? (i := 7) rfl)) (by decide) (by decide)) q8a q8c (g := (mkF m 148 #[.val (.int p1), .val (.long q2), .second, .val (.int p3), .val (.int i4), .val (.long j5), .second, .val (.ref sx_INT), .val (.int (0 : Int32))] [(.long j5), (.ref sx_INT)])) rfl (by rw [hml]; rfl) (Steps.refl _) (argsL := [(.long j5)]) (rest := []) (lenOf pd_0 rfl) rfl (by show 2 * 0 + _ ≤ _; exact Nat.le_of_eq rfl) (hb hby at_148) (fun _ _ => ⟨rfl, e5, (by decide : 0 + 0 ≤ _), (by decide : 0 + 0 ≤ _)⟩)
        dsimp only [Pt.U, Pt.locs, Pt.cells, Pt.slots] at X8 l8 y8 z8 st8 hQ8
        subst l8 y8 z8
        refine Done.far st8 ?_
        obtain ⟨rfl, N8q, e8⟩ := hQ8
        have N8 := Fr.app N0 N8q
        show Done p e below s _ _ _ (T8.setTop (mkF m 151 #[.val (.int p1), .val (.long q2), .second, .val (.int p3), .val (.int i4), .val (.long j5), .second, .val (.ref sx_INT), .val (.int (0 : Int32))] [(.int (F2 j5 (-2147483648 : Int64) (2147483647 : Int64)))]))
        refine Done.step (fun t k => XS.iload X8.here hx rfl (hb hby at_151) rfl k) ?_
        show Done p e below s _ _ _ (T8.setTop (mkF m 153 #[.val (.int p1), .val (.long q2), .second, .val (.int p3), .val (.int i4), .val (.long j5), .second, .val (.ref sx_INT), .val (.int (0 : Int32))] [(.int (0 : Int32)), (.int (F2 j5 (-2147483648 : Int64) (2147483647 : Int64)))]))
        refine Done.step (fun t k => XS.icmpNo X8.here hx rfl (hb hby at_153) rfl (teq (own_int_0 j5 c6)).2 k) ?_
        show Done p e below s _ _ _ (T8.setTop (mkF m 156 #[.val (.int p1), .val (.long q2), .second, .val (.int p3), .val (.int i4), .val (.long j5), .second, .val (.ref sx_INT), .val (.int (0 : Int32))] []))
        refine Done.step (fun t k => XS.iconst X8.here hx rfl (hb hby at_156) k) ?_
        show Done p e below s _ _ _ (T8.setTop (mkF m 157 #[.val (.int p1), .val (.long q2), .second, .val (.int p3), .val (.int i4), .val (.long j5), .second, .val (.ref sx_INT), .val (.int (0 : Int32))] [(.int (1 : Int32))]))
        refine Done.step (fun t k => XS.goto X8.here hx rfl (pc0 := 157) (pc' := 161) rfl (hb hby at_157) (by decide) (by decide) k) ?_
        show Done p e below s _ _ _ (T8.setTop (mkF m 161 #[.val (.int p1), .val (.long q2), .second, .val (.int p3), .val (.int i4), .val (.long j5), .second, .val (.ref sx_INT), .val (.int (0 : Int32))] [(.int (1 : Int32))]))
        exact Done.narr X8 hx hlk hret (by simp) (hb hby at_161) (by decide) (by decide) ⟨rfl, N8⟩
    · refine Done.step (fun t k => XS.icmpYes X0.here hx rfl (pc0 := 61) (pc' := 89) rfl (hb hby at_61) rfl (feq c4).2 (by decide) (by decide) k) ?_
      show Done p e below s _ _ _ (T.setTop (mkF m 89 #[.val (.int p1), .val (.long q2), .second, .val (.int p3), .val (.int i4), .val (.long j5), .second, s7, s8] []))
      refine Done.step (fun t k => XS.iload X0.here hx rfl (hb hby at_89) rfl k) ?_
      show Done p e below s _ _ _ (T.setTop (mkF m 91 #[.val (.int p1), .val (.long q2), .second, .val (.int p3), .val (.int i4), .val (.long j5), .second, s7, s8] [(.int i4)]))
      refine Done.step (fun t k => XS.iconst X0.here hx rfl (hb hby at_91) k) ?_
      show Done p e below s _ _ _ (T.setTop (mkF m 92 #[.val (.int p1), .val (.long q2), .second, .val (.int p3), .val (.int i4), .val (.long j5), .second, s7, s8] [(.int (2 : Int32)), (.int i4)]))
      by_cases c9 : i4 = (2 : Int32)
      · refine Done.step (fun t k => XS.icmpNo X0.here hx rfl (hb hby at_92) rfl (teq c9).2 k) ?_
        show Done p e below s _ _ _ (T.setTop (mkF m 95 #[.val (.int p1), .val (.long q2), .second, .val (.int p3), .val (.int i4), .val (.long j5), .second, s7, s8] []))
        obtain ⟨T10, X10, e10, st10⟩ := getS2 X0 hx hZ hown (host := "") (Or.inl (hw _ (List.mem_of_getElem? (i := 20) rfl))) Via.refl e0 S_sx_SHORT (g := (mkF m 95 #[.val (.int p1), .val (.long q2), .second, .val (.int p3), .val (.int i4), .val (.long j5), .second, s7, s8] [])) rfl (hb hby at_95)
        refine Done.step st10 ?_
        show Done p e below s _ _ _ (T10.setTop (mkF m 98 #[.val (.int p1), .val (.long q2), .second, .val (.int p3), .val (.int i4), .val (.long j5), .second, s7, s8] [(.ref sx_SHORT)]))
        refine Done.step (fun t k => XS.astore X10.here hx rfl (hb hby at_98) rfl rfl (l' := #[.val (.int p1), .val (.long q2), .second, .val (.int p3), .val (.int i4), .val (.long j5), .second, .val (.ref sx_SHORT), .unset]) (by rcases hs with ⟨rfl, rfl⟩ | ⟨q, rfl, rfl⟩ <;> rfl) k) ?_
        show Done p e below s _ _ _ (T10.setTop (mkF m 100 #[.val (.int p1), .val (.long q2), .second, .val (.int p3), .val (.int i4), .val (.long j5), .second, .val (.ref sx_SHORT), .unset] []))
        refine Done.step (fun t k => XS.lload X10.here hx rfl (hb hby at_100) rfl k) ?_
        show Done p e below s _ _ _ (T10.setTop (mkF m 102 #[.val (.int p1), .val (.long q2), .second, .val (.int p3), .val (.int i4), .val (.long j5), .second, .val (.ref sx_SHORT), .unset] [(.long j5)]))
        refine Done.step (fun t k => XS.lload X10.here hx rfl (hb hby at_102) rfl k) ?_
        show Done p e below s _ _ _ (T10.setTop (mkF m 104 #[.val (.int p1), .val (.long q2), .second, .val (.int p3), .val (.int i4), .val (.long j5), .second, .val (.ref sx_SHORT), .unset] [(.long j5), (.long j5)]))
        refine Done.step (fun t k => XS.l2i X10.here hx rfl (hb hby at_104) rfl k) ?_
        show Done p e below s _ _ _ (T10.setTop (mkF m 105 #[.val (.int p1), .val (.long q2), .second, .val (.int p3), .val (.int i4), .val (.long j5), .second, .val (.ref sx_SHORT), .unset] [(.int (j5).toInt32), (.long j5)]))
        refine Done.step (fun t k => XS.i2s X10.here hx rfl (hb hby at_105) rfl k) ?_
        show Done p e below s _ _ _ (T10.setTop (mkF m 106 #[.val (.int p1), .val (.long q2), .second, .val (.int p3), .val (.int i4), .val (.long j5), .second, .val (.ref sx_SHORT), .unset] [(.int ((j5).toInt32).toInt16.toInt32), (.long j5)]))
        refine Done.step (fun t k => XS.i2l X10.here hx rfl (hb hby at_106) rfl k) ?_
        show Done p e below s _ _ _ (T10.setTop (mkF m 107 #[.val (.int p1), .val (.long q2), .second, .val (.int p3), .val (.int i4), .val (.long j5), .second, .val (.ref sx_SHORT), .unset] [(.long (((j5).toInt32).toInt16.toInt32).toInt64), (.long j5)]))
        refine Done.step (fun t k => XS.lcmp X10.here hx rfl (hb hby at_107) rfl k) ?_
        show Done p e below s _ _ _ (T10.setTop (mkF m 108 #[.val (.int p1), .val (.long q2), .second, .val (.int p3), .val (.int i4), .val (.long j5), .second, .val (.ref sx_SHORT), .unset] [(.int (lcmpW j5 (((j5).toInt32).toInt16.toInt32).toInt64))]))
        by_cases c11 : j5 = (((j5).toInt32).toInt16.toInt32).toInt64
        · refine Done.step (fun t k => XS.ifNo X10.here hx rfl (hb hby at_108) rfl ((if0 _ _).trans (teq ((lw_eq _ _).mpr c11)).2) k) ?_
          show Done p e below s _ _ _ (T10.setTop (mkF m 111 #[.val (.int p1), .val (.long q2), .second, .val (.int p3), .val (.int i4), .val (.long j5), .second, .val (.ref sx_SHORT), .unset] []))
          refine Done.step (fun t k => XS.iconst X10.here hx rfl (hb hby at_111) k) ?_
          show Done p e below s _ _ _ (T10.setTop (mkF m 112 #[.val (.int p1), .val (.long q2), .second, .val (.int p3), .val (.int i4), .val (.long j5), .second, .val (.ref sx_SHORT), .unset] [(.int (1 : Int32))]))
          refine Done.step (fun t k => XS.goto X10.here hx rfl (pc0 := 112) (pc' := 116) rfl (hb hby at_112) (by decide) (by decide) k) ?_
          show Done p e below s _ _ _ (T10.setTop (mkF m 116 #[.val (.int p1), .val (.long q2), .second, .val (.int p3), .val (.int i4), .val (.long j5), .second, .val (.ref sx_SHORT), .unset] [(.int (1 : Int32))]))
          refine Done.step (fun t k => XS.istore X10.here hx rfl (hb hby at_116) rfl (l' := #[.val (.int p1), .val (.long q2), .second, .val (.int p3), .val (.int i4), .val (.long j5), .second, .val (.ref sx_SHORT), .val (.int (1 : Int32))]) rfl k) ?_
          show Done p e below s _ _ _ (T10.setTop (mkF m 118 #[.val (.int p1), .val (.long q2), .second, .val (.int p3), .val (.int i4), .val (.long j5), .second, .val (.ref sx_SHORT), .val (.int (1 : Int32))] []))
          refine Done.step (fun t k => XS.goto X10.here hx rfl (pc0 := 118) (pc' := 144) rfl (hb hby at_118) (by decide) (by decide) k) ?_
          show Done p e below s _ _ _ (T10.setTop (mkF m 144 #[.val (.int p1), .val (.long q2), .second, .val (.int p3), .val (.int i4), .val (.long j5), .second, .val (.ref sx_SHORT), .val (.int (1 : Int32))] []))
          refine Done.step (fun t k => XS.aload X10.here hx rfl (hb hby at_144) rfl rfl k) ?_
          show Done p e below s _ _ _ (T10.setTop (mkF m 146 #[.val (.int p1), .val (.long q2), .second, .val (.int p3), .val (.int i4), .val (.long j5), .second, .val (.ref sx_SHORT), .val (.int (1 : Int32))] [(.ref sx_SHORT)]))
          refine Done.step (fun t k => XS.lload X10.here hx rfl (hb hby at_146) rfl k) ?_
          show Done p e below s _ _ _ (T10.setTop (mkF m 148 #[.val (.int p1), .val (.long q2), .second, .val (.int p3), .val (.int i4), .val (.long j5), .second, .val (.ref sx_SHORT), .val (.int (1 : Int32))] [(.long j5), (.ref sx_SHORT)]))
          obtain ⟨cq12, kq12, q12a, q12b, q12c⟩ := isOf hZ e10 E_sx_SHORT
          obtain ⟨v12, _, ⟨T12, L12, k12, n12⟩, -, X12, ⟨Lc12, hQ12, l12, y12, z12⟩, st12⟩ := X10.virtualBack hx (y := (⟨"com/example/taulu/taulu/bind/Scalar", "holds", "(J)Z"⟩ : MethodName)) (z := (⟨"com/example/taulu/taulu/bind/Scalar", "holds", "(J)Z"⟩ : MethodName)) hown (mvT hZ (hw _ (List.mem_of_getElem? (i := 9) rfl))) (mvT hZ (hw _ (List.mem_of_getElem? (i := 10) rfl))) (notFace_of_selects (args := #[]) (mvT hZ (hw _ (List.mem_of_getElem? (i := 12) rfl)))) (mvT hZ (hw _ (List.mem_of_getElem? (i := 12) rfl))) (mvT hZ (hw _ (List.mem_of_getElem? (i := 11) rfl))) (by decide) (backOf (W := 0) (rm2 l Z a0 hw [] sx_SHORT j5 (-32768 : Int64) (32767 : Int64) h0 n0 Z0 F_sx_SHORT_min F_sx_SHORT_max) hZ (hw _ (List.mem_of_getElem? (i := 13) rfl)) (hw _ (List.mem_of_getElem? (i := 7) rfl)) (by decide) (by decide)) q12a q12c (g := (mkF m 148 #[.val (.int p1), .val (.long q2), .second, .val (.int p3), .val (.int i4), .val (.long j5), .second, .val (.ref sx_SHORT), .val (.int (1 : Int32))] [(.long j5), (.ref sx_SHORT)])) rfl (by rw [hml]; rfl) (Steps.refl _) (argsL := [(.long j5)]) (rest := []) (lenOf pd_0 rfl) rfl (by show 2 * 0 + _ ≤ _; exact Nat.le_of_eq rfl) (hb hby at_148) (fun _ _ => ⟨rfl, e10, (by decide : 0 + 0 ≤ _), (by decide : 0 + 0 ≤ _)⟩)
          dsimp only [Pt.U, Pt.locs, Pt.cells, Pt.slots] at X12 l12 y12 z12 st12 hQ12
          subst l12 y12 z12
          refine Done.far st12 ?_
          obtain ⟨rfl, N12q, e12⟩ := hQ12
          have N12 := Fr.app N0 N12q
          show Done p e below s _ _ _ (T12.setTop (mkF m 151 #[.val (.int p1), .val (.long q2), .second, .val (.int p3), .val (.int i4), .val (.long j5), .second, .val (.ref sx_SHORT), .val (.int (1 : Int32))] [(.int (F2 j5 (-32768 : Int64) (32767 : Int64)))]))
          refine Done.step (fun t k => XS.iload X12.here hx rfl (hb hby at_151) rfl k) ?_
          show Done p e below s _ _ _ (T12.setTop (mkF m 153 #[.val (.int p1), .val (.long q2), .second, .val (.int p3), .val (.int i4), .val (.long j5), .second, .val (.ref sx_SHORT), .val (.int (1 : Int32))] [(.int (1 : Int32)), (.int (F2 j5 (-32768 : Int64) (32767 : Int64)))]))
          refine Done.step (fun t k => XS.icmpNo X12.here hx rfl (hb hby at_153) rfl (teq (own_short_1 j5 c11)).2 k) ?_
          show Done p e below s _ _ _ (T12.setTop (mkF m 156 #[.val (.int p1), .val (.long q2), .second, .val (.int p3), .val (.int i4), .val (.long j5), .second, .val (.ref sx_SHORT), .val (.int (1 : Int32))] []))
          refine Done.step (fun t k => XS.iconst X12.here hx rfl (hb hby at_156) k) ?_
          show Done p e below s _ _ _ (T12.setTop (mkF m 157 #[.val (.int p1), .val (.long q2), .second, .val (.int p3), .val (.int i4), .val (.long j5), .second, .val (.ref sx_SHORT), .val (.int (1 : Int32))] [(.int (1 : Int32))]))
          refine Done.step (fun t k => XS.goto X12.here hx rfl (pc0 := 157) (pc' := 161) rfl (hb hby at_157) (by decide) (by decide) k) ?_
          show Done p e below s _ _ _ (T12.setTop (mkF m 161 #[.val (.int p1), .val (.long q2), .second, .val (.int p3), .val (.int i4), .val (.long j5), .second, .val (.ref sx_SHORT), .val (.int (1 : Int32))] [(.int (1 : Int32))]))
          exact Done.narr X12 hx hlk hret (by simp) (hb hby at_161) (by decide) (by decide) ⟨rfl, N12⟩
        · refine Done.step (fun t k => XS.ifYes X10.here hx rfl (pc0 := 108) (pc' := 115) rfl (hb hby at_108) rfl ((if0 _ _).trans (feq (fun q_ => c11 ((lw_eq _ _).mp q_))).2) (by decide) (by decide) k) ?_
          show Done p e below s _ _ _ (T10.setTop (mkF m 115 #[.val (.int p1), .val (.long q2), .second, .val (.int p3), .val (.int i4), .val (.long j5), .second, .val (.ref sx_SHORT), .unset] []))
          refine Done.step (fun t k => XS.iconst X10.here hx rfl (hb hby at_115) k) ?_
          show Done p e below s _ _ _ (T10.setTop (mkF m 116 #[.val (.int p1), .val (.long q2), .second, .val (.int p3), .val (.int i4), .val (.long j5), .second, .val (.ref sx_SHORT), .unset] [(.int (0 : Int32))]))
          refine Done.step (fun t k => XS.istore X10.here hx rfl (hb hby at_116) rfl (l' := #[.val (.int p1), .val (.long q2), .second, .val (.int p3), .val (.int i4), .val (.long j5), .second, .val (.ref sx_SHORT), .val (.int (0 : Int32))]) rfl k) ?_
          show Done p e below s _ _ _ (T10.setTop (mkF m 118 #[.val (.int p1), .val (.long q2), .second, .val (.int p3), .val (.int i4), .val (.long j5), .second, .val (.ref sx_SHORT), .val (.int (0 : Int32))] []))
          refine Done.step (fun t k => XS.goto X10.here hx rfl (pc0 := 118) (pc' := 144) rfl (hb hby at_118) (by decide) (by decide) k) ?_
          show Done p e below s _ _ _ (T10.setTop (mkF m 144 #[.val (.int p1), .val (.long q2), .second, .val (.int p3), .val (.int i4), .val (.long j5), .second, .val (.ref sx_SHORT), .val (.int (0 : Int32))] []))
          refine Done.step (fun t k => XS.aload X10.here hx rfl (hb hby at_144) rfl rfl k) ?_
          show Done p e below s _ _ _ (T10.setTop (mkF m 146 #[.val (.int p1), .val (.long q2), .second, .val (.int p3), .val (.int i4), .val (.long j5), .second, .val (.ref sx_SHORT), .val (.int (0 : Int32))] [(.ref sx_SHORT)]))
          refine Done.step (fun t k => XS.lload X10.here hx rfl (hb hby at_146) rfl k) ?_
          show Done p e below s _ _ _ (T10.setTop (mkF m 148 #[.val (.int p1), .val (.long q2), .second, .val (.int p3), .val (.int i4), .val (.long j5), .second, .val (.ref sx_SHORT), .val (.int (0 : Int32))] [(.long j5), (.ref sx_SHORT)]))
          obtain ⟨cq13, kq13, q13a, q13b, q13c⟩ := isOf hZ e10 E_sx_SHORT
          obtain ⟨v13, _, ⟨T13, L13, k13, n13⟩, -, X13, ⟨Lc13, hQ13, l13, y13, z13⟩, st13⟩ := X10.virtualBack hx (y := (⟨"com/example/taulu/taulu/bind/Scalar", "holds", "(J)Z"⟩ : MethodName)) (z := (⟨"com/example/taulu/taulu/bind/Scalar", "holds", "(J)Z"⟩ : MethodName)) hown (mvT hZ (hw _ (List.mem_of_getElem? (i := 9) rfl))) (mvT hZ (hw _ (List.mem_of_getElem? (i := 10) rfl))) (notFace_of_selects (args := #[]) (mvT hZ (hw _ (List.mem_of_getElem? (i := 12) rfl)))) (mvT hZ (hw _ (List.mem_of_getElem? (i := 12) rfl))) (mvT hZ (hw _ (List.mem_of_getElem? (i := 11) rfl))) (by decide) (backOf (W := 0) (rm2 l Z a0 hw [] sx_SHORT j5 (-32768 : Int64) (32767 : Int64) h0 n0 Z0 F_sx_SHORT_min F_sx_SHORT_max) hZ (hw _ (List.mem_of_getElem? (i := 13) rfl)) (hw _ (List.mem_of_getElem? (i := 7) rfl)) (by decide) (by decide)) q13a q13c (g := (mkF m 148 #[.val (.int p1), .val (.long q2), .second, .val (.int p3), .val (.int i4), .val (.long j5), .second, .val (.ref sx_SHORT), .val (.int (0 : Int32))] [(.long j5), (.ref sx_SHORT)])) rfl (by rw [hml]; rfl) (Steps.refl _) (argsL := [(.long j5)]) (rest := []) (lenOf pd_0 rfl) rfl (by show 2 * 0 + _ ≤ _; exact Nat.le_of_eq rfl) (hb hby at_148) (fun _ _ => ⟨rfl, e10, (by decide : 0 + 0 ≤ _), (by decide : 0 + 0 ≤ _)⟩)
          dsimp only [Pt.U, Pt.locs, Pt.cells, Pt.slots] at X13 l13 y13 z13 st13 hQ13
          subst l13 y13 z13
          refine Done.far st13 ?_
          obtain ⟨rfl, N13q, e13⟩ := hQ13
          have N13 := Fr.app N0 N13q
          show Done p e below s _ _ _ (T13.setTop (mkF m 151 #[.val (.int p1), .val (.long q2), .second, .val (.int p3), .val (.int i4), .val (.long j5), .second, .val (.ref sx_SHORT), .val (.int (0 : Int32))] [(.int (F2 j5 (-32768 : Int64) (32767 : Int64)))]))
          refine Done.step (fun t k => XS.iload X13.here hx rfl (hb hby at_151) rfl k) ?_
          show Done p e below s _ _ _ (T13.setTop (mkF m 153 #[.val (.int p1), .val (.long q2), .second, .val (.int p3), .val (.int i4), .val (.long j5), .second, .val (.ref sx_SHORT), .val (.int (0 : Int32))] [(.int (0 : Int32)), (.int (F2 j5 (-32768 : Int64) (32767 : Int64)))]))
          refine Done.step (fun t k => XS.icmpNo X13.here hx rfl (hb hby at_153) rfl (teq (own_short_0 j5 c11)).2 k) ?_
          show Done p e below s _ _ _ (T13.setTop (mkF m 156 #[.val (.int p1), .val (.long q2), .second, .val (.int p3), .val (.int i4), .val (.long j5), .second, .val (.ref sx_SHORT), .val (.int (0 : Int32))] []))
          refine Done.step (fun t k => XS.iconst X13.here hx rfl (hb hby at_156) k) ?_
          show Done p e below s _ _ _ (T13.setTop (mkF m 157 #[.val (.int p1), .val (.long q2), .second, .val (.int p3), .val (.int i4), .val (.long j5), .second, .val (.ref sx_SHORT), .val (.int (0 : Int32))] [(.int (1 : Int32))]))
          refine Done.step (fun t k => XS.goto X13.here hx rfl (pc0 := 157) (pc' := 161) rfl (hb hby at_157) (by decide) (by decide) k) ?_
          show Done p e below s _ _ _ (T13.setTop (mkF m 161 #[.val (.int p1), .val (.long q2), .second, .val (.int p3), .val (.int i4), .val (.long j5), .second, .val (.ref sx_SHORT), .val (.int (0 : Int32))] [(.int (1 : Int32))]))
          exact Done.narr X13 hx hlk hret (by simp) (hb hby at_161) (by decide) (by decide) ⟨rfl, N13⟩
      · refine Done.step (fun t k => XS.icmpYes X0.here hx rfl (pc0 := 92) (pc' := 121) rfl (hb hby at_92) rfl (feq c9).2 (by decide) (by decide) k) ?_
        show Done p e below s _ _ _ (T.setTop (mkF m 121 #[.val (.int p1), .val (.long q2), .second, .val (.int p3), .val (.int i4), .val (.long j5), .second, s7, s8] []))
        obtain ⟨T14, X14, e14, st14⟩ := getS2 X0 hx hZ hown (host := "") (Or.inl (hw _ (List.mem_of_getElem? (i := 18) rfl))) Via.refl e0 S_sx_BYTE (g := (mkF m 121 #[.val (.int p1), .val (.long q2), .second, .val (.int p3), .val (.int i4), .val (.long j5), .second, s7, s8] [])) rfl (hb hby at_121)
        refine Done.step st14 ?_
        show Done p e below s _ _ _ (T14.setTop (mkF m 124 #[.val (.int p1), .val (.long q2), .second, .val (.int p3), .val (.int i4), .val (.long j5), .second, s7, s8] [(.ref sx_BYTE)]))
        refine Done.step (fun t k => XS.astore X14.here hx rfl (hb hby at_124) rfl rfl (l' := #[.val (.int p1), .val (.long q2), .second, .val (.int p3), .val (.int i4), .val (.long j5), .second, .val (.ref sx_BYTE), .unset]) (by rcases hs with ⟨rfl, rfl⟩ | ⟨q, rfl, rfl⟩ <;> rfl) k) ?_
        show Done p e below s _ _ _ (T14.setTop (mkF m 126 #[.val (.int p1), .val (.long q2), .second, .val (.int p3), .val (.int i4), .val (.long j5), .second, .val (.ref sx_BYTE), .unset] []))
        refine Done.step (fun t k => XS.lload X14.here hx rfl (hb hby at_126) rfl k) ?_
        show Done p e below s _ _ _ (T14.setTop (mkF m 128 #[.val (.int p1), .val (.long q2), .second, .val (.int p3), .val (.int i4), .val (.long j5), .second, .val (.ref sx_BYTE), .unset] [(.long j5)]))
        refine Done.step (fun t k => XS.lload X14.here hx rfl (hb hby at_128) rfl k) ?_
        show Done p e below s _ _ _ (T14.setTop (mkF m 130 #[.val (.int p1), .val (.long q2), .second, .val (.int p3), .val (.int i4), .val (.long j5), .second, .val (.ref sx_BYTE), .unset] [(.long j5), (.long j5)]))
        refine Done.step (fun t k => XS.l2i X14.here hx rfl (hb hby at_130) rfl k) ?_
        show Done p e below s _ _ _ (T14.setTop (mkF m 131 #[.val (.int p1), .val (.long q2), .second, .val (.int p3), .val (.int i4), .val (.long j5), .second, .val (.ref sx_BYTE), .unset] [(.int (j5).toInt32), (.long j5)]))
        refine Done.step (fun t k => XS.i2b X14.here hx rfl (hb hby at_131) rfl k) ?_
        show Done p e below s _ _ _ (T14.setTop (mkF m 132 #[.val (.int p1), .val (.long q2), .second, .val (.int p3), .val (.int i4), .val (.long j5), .second, .val (.ref sx_BYTE), .unset] [(.int ((j5).toInt32).toInt8.toInt32), (.long j5)]))
        refine Done.step (fun t k => XS.i2l X14.here hx rfl (hb hby at_132) rfl k) ?_
        show Done p e below s _ _ _ (T14.setTop (mkF m 133 #[.val (.int p1), .val (.long q2), .second, .val (.int p3), .val (.int i4), .val (.long j5), .second, .val (.ref sx_BYTE), .unset] [(.long (((j5).toInt32).toInt8.toInt32).toInt64), (.long j5)]))
        refine Done.step (fun t k => XS.lcmp X14.here hx rfl (hb hby at_133) rfl k) ?_
        show Done p e below s _ _ _ (T14.setTop (mkF m 134 #[.val (.int p1), .val (.long q2), .second, .val (.int p3), .val (.int i4), .val (.long j5), .second, .val (.ref sx_BYTE), .unset] [(.int (lcmpW j5 (((j5).toInt32).toInt8.toInt32).toInt64))]))
        by_cases c15 : j5 = (((j5).toInt32).toInt8.toInt32).toInt64
        · refine Done.step (fun t k => XS.ifNo X14.here hx rfl (hb hby at_134) rfl ((if0 _ _).trans (teq ((lw_eq _ _).mpr c15)).2) k) ?_
          show Done p e below s _ _ _ (T14.setTop (mkF m 137 #[.val (.int p1), .val (.long q2), .second, .val (.int p3), .val (.int i4), .val (.long j5), .second, .val (.ref sx_BYTE), .unset] []))
          refine Done.step (fun t k => XS.iconst X14.here hx rfl (hb hby at_137) k) ?_
          show Done p e below s _ _ _ (T14.setTop (mkF m 138 #[.val (.int p1), .val (.long q2), .second, .val (.int p3), .val (.int i4), .val (.long j5), .second, .val (.ref sx_BYTE), .unset] [(.int (1 : Int32))]))
          refine Done.step (fun t k => XS.goto X14.here hx rfl (pc0 := 138) (pc' := 142) rfl (hb hby at_138) (by decide) (by decide) k) ?_
          show Done p e below s _ _ _ (T14.setTop (mkF m 142 #[.val (.int p1), .val (.long q2), .second, .val (.int p3), .val (.int i4), .val (.long j5), .second, .val (.ref sx_BYTE), .unset] [(.int (1 : Int32))]))
          refine Done.step (fun t k => XS.istore X14.here hx rfl (hb hby at_142) rfl (l' := #[.val (.int p1), .val (.long q2), .second, .val (.int p3), .val (.int i4), .val (.long j5), .second, .val (.ref sx_BYTE), .val (.int (1 : Int32))]) rfl k) ?_
          show Done p e below s _ _ _ (T14.setTop (mkF m 144 #[.val (.int p1), .val (.long q2), .second, .val (.int p3), .val (.int i4), .val (.long j5), .second, .val (.ref sx_BYTE), .val (.int (1 : Int32))] []))
          refine Done.step (fun t k => XS.aload X14.here hx rfl (hb hby at_144) rfl rfl k) ?_
          show Done p e below s _ _ _ (T14.setTop (mkF m 146 #[.val (.int p1), .val (.long q2), .second, .val (.int p3), .val (.int i4), .val (.long j5), .second, .val (.ref sx_BYTE), .val (.int (1 : Int32))] [(.ref sx_BYTE)]))
          refine Done.step (fun t k => XS.lload X14.here hx rfl (hb hby at_146) rfl k) ?_
          show Done p e below s _ _ _ (T14.setTop (mkF m 148 #[.val (.int p1), .val (.long q2), .second, .val (.int p3), .val (.int i4), .val (.long j5), .second, .val (.ref sx_BYTE), .val (.int (1 : Int32))] [(.long j5), (.ref sx_BYTE)]))
          obtain ⟨cq16, kq16, q16a, q16b, q16c⟩ := isOf hZ e14 E_sx_BYTE
          obtain ⟨v16, _, ⟨T16, L16, k16, n16⟩, -, X16, ⟨Lc16, hQ16, l16, y16, z16⟩, st16⟩ := X14.virtualBack hx (y := (⟨"com/example/taulu/taulu/bind/Scalar", "holds", "(J)Z"⟩ : MethodName)) (z := (⟨"com/example/taulu/taulu/bind/Scalar", "holds", "(J)Z"⟩ : MethodName)) hown (mvT hZ (hw _ (List.mem_of_getElem? (i := 9) rfl))) (mvT hZ (hw _ (List.mem_of_getElem? (i := 10) rfl))) (notFace_of_selects (args := #[]) (mvT hZ (hw _ (List.mem_of_getElem? (i := 12) rfl)))) (mvT hZ (hw _ (List.mem_of_getElem? (i := 12) rfl))) (mvT hZ (hw _ (List.mem_of_getElem? (i := 11) rfl))) (by decide) (backOf (W := 0) (rm2 l Z a0 hw [] sx_BYTE j5 (-128 : Int64) (127 : Int64) h0 n0 Z0 F_sx_BYTE_min F_sx_BYTE_max) hZ (hw _ (List.mem_of_getElem? (i := 13) rfl)) (hw _ (List.mem_of_getElem? (i := 7) rfl)) (by decide) (by decide)) q16a q16c (g := (mkF m 148 #[.val (.int p1), .val (.long q2), .second, .val (.int p3), .val (.int i4), .val (.long j5), .second, .val (.ref sx_BYTE), .val (.int (1 : Int32))] [(.long j5), (.ref sx_BYTE)])) rfl (by rw [hml]; rfl) (Steps.refl _) (argsL := [(.long j5)]) (rest := []) (lenOf pd_0 rfl) rfl (by show 2 * 0 + _ ≤ _; exact Nat.le_of_eq rfl) (hb hby at_148) (fun _ _ => ⟨rfl, e14, (by decide : 0 + 0 ≤ _), (by decide : 0 + 0 ≤ _)⟩)
          dsimp only [Pt.U, Pt.locs, Pt.cells, Pt.slots] at X16 l16 y16 z16 st16 hQ16
          subst l16 y16 z16
          refine Done.far st16 ?_
          obtain ⟨rfl, N16q, e16⟩ := hQ16
          have N16 := Fr.app N0 N16q
          show Done p e below s _ _ _ (T16.setTop (mkF m 151 #[.val (.int p1), .val (.long q2), .second, .val (.int p3), .val (.int i4), .val (.long j5), .second, .val (.ref sx_BYTE), .val (.int (1 : Int32))] [(.int (F2 j5 (-128 : Int64) (127 : Int64)))]))
          refine Done.step (fun t k => XS.iload X16.here hx rfl (hb hby at_151) rfl k) ?_
          show Done p e below s _ _ _ (T16.setTop (mkF m 153 #[.val (.int p1), .val (.long q2), .second, .val (.int p3), .val (.int i4), .val (.long j5), .second, .val (.ref sx_BYTE), .val (.int (1 : Int32))] [(.int (1 : Int32)), (.int (F2 j5 (-128 : Int64) (127 : Int64)))]))
          refine Done.step (fun t k => XS.icmpNo X16.here hx rfl (hb hby at_153) rfl (teq (own_byte_1 j5 c15)).2 k) ?_
          show Done p e below s _ _ _ (T16.setTop (mkF m 156 #[.val (.int p1), .val (.long q2), .second, .val (.int p3), .val (.int i4), .val (.long j5), .second, .val (.ref sx_BYTE), .val (.int (1 : Int32))] []))
          refine Done.step (fun t k => XS.iconst X16.here hx rfl (hb hby at_156) k) ?_
          show Done p e below s _ _ _ (T16.setTop (mkF m 157 #[.val (.int p1), .val (.long q2), .second, .val (.int p3), .val (.int i4), .val (.long j5), .second, .val (.ref sx_BYTE), .val (.int (1 : Int32))] [(.int (1 : Int32))]))
          refine Done.step (fun t k => XS.goto X16.here hx rfl (pc0 := 157) (pc' := 161) rfl (hb hby at_157) (by decide) (by decide) k) ?_
          show Done p e below s _ _ _ (T16.setTop (mkF m 161 #[.val (.int p1), .val (.long q2), .second, .val (.int p3), .val (.int i4), .val (.long j5), .second, .val (.ref sx_BYTE), .val (.int (1 : Int32))] [(.int (1 : Int32))]))
          exact Done.narr X16 hx hlk hret (by simp) (hb hby at_161) (by decide) (by decide) ⟨rfl, N16⟩
        · refine Done.step (fun t k => XS.ifYes X14.here hx rfl (pc0 := 134) (pc' := 141) rfl (hb hby at_134) rfl ((if0 _ _).trans (feq (fun q_ => c15 ((lw_eq _ _).mp q_))).2) (by decide) (by decide) k) ?_
          show Done p e below s _ _ _ (T14.setTop (mkF m 141 #[.val (.int p1), .val (.long q2), .second, .val (.int p3), .val (.int i4), .val (.long j5), .second, .val (.ref sx_BYTE), .unset] []))
          refine Done.step (fun t k => XS.iconst X14.here hx rfl (hb hby at_141) k) ?_
          show Done p e below s _ _ _ (T14.setTop (mkF m 142 #[.val (.int p1), .val (.long q2), .second, .val (.int p3), .val (.int i4), .val (.long j5), .second, .val (.ref sx_BYTE), .unset] [(.int (0 : Int32))]))
          refine Done.step (fun t k => XS.istore X14.here hx rfl (hb hby at_142) rfl (l' := #[.val (.int p1), .val (.long q2), .second, .val (.int p3), .val (.int i4), .val (.long j5), .second, .val (.ref sx_BYTE), .val (.int (0 : Int32))]) rfl k) ?_
          show Done p e below s _ _ _ (T14.setTop (mkF m 144 #[.val (.int p1), .val (.long q2), .second, .val (.int p3), .val (.int i4), .val (.long j5), .second, .val (.ref sx_BYTE), .val (.int (0 : Int32))] []))
          refine Done.step (fun t k => XS.aload X14.here hx rfl (hb hby at_144) rfl rfl k) ?_
          show Done p e below s _ _ _ (T14.setTop (mkF m 146 #[.val (.int p1), .val (.long q2), .second, .val (.int p3), .val (.int i4), .val (.long j5), .second, .val (.ref sx_BYTE), .val (.int (0 : Int32))] [(.ref sx_BYTE)]))
          refine Done.step (fun t k => XS.lload X14.here hx rfl (hb hby at_146) rfl k) ?_
          show Done p e below s _ _ _ (T14.setTop (mkF m 148 #[.val (.int p1), .val (.long q2), .second, .val (.int p3), .val (.int i4), .val (.long j5), .second, .val (.ref sx_BYTE), .val (.int (0 : Int32))] [(.long j5), (.ref sx_BYTE)]))
          obtain ⟨cq17, kq17, q17a, q17b, q17c⟩ := isOf hZ e14 E_sx_BYTE
          obtain ⟨v17, _, ⟨T17, L17, k17, n17⟩, -, X17, ⟨Lc17, hQ17, l17, y17, z17⟩, st17⟩ := X14.virtualBack hx (y := (⟨"com/example/taulu/taulu/bind/Scalar", "holds", "(J)Z"⟩ : MethodName)) (z := (⟨"com/example/taulu/taulu/bind/Scalar", "holds", "(J)Z"⟩ : MethodName)) hown (mvT hZ (hw _ (List.mem_of_getElem? (i := 9) rfl))) (mvT hZ (hw _ (List.mem_of_getElem? (i := 10) rfl))) (notFace_of_selects (args := #[]) (mvT hZ (hw _ (List.mem_of_getElem? (i := 12) rfl)))) (mvT hZ (hw _ (List.mem_of_getElem? (i := 12) rfl))) (mvT hZ (hw _ (List.mem_of_getElem? (i := 11) rfl))) (by decide) (backOf (W := 0) (rm2 l Z a0 hw [] sx_BYTE j5 (-128 : Int64) (127 : Int64) h0 n0 Z0 F_sx_BYTE_min F_sx_BYTE_max) hZ (hw _ (List.mem_of_getElem? (i := 13) rfl)) (hw _ (List.mem_of_getElem? (i := 7) rfl)) (by decide) (by decide)) q17a q17c (g := (mkF m 148 #[.val (.int p1), .val (.long q2), .second, .val (.int p3), .val (.int i4), .val (.long j5), .second, .val (.ref sx_BYTE), .val (.int (0 : Int32))] [(.long j5), (.ref sx_BYTE)])) rfl (by rw [hml]; rfl) (Steps.refl _) (argsL := [(.long j5)]) (rest := []) (lenOf pd_0 rfl) rfl (by show 2 * 0 + _ ≤ _; exact Nat.le_of_eq rfl) (hb hby at_148) (fun _ _ => ⟨rfl, e14, (by decide : 0 + 0 ≤ _), (by decide : 0 + 0 ≤ _)⟩)
          dsimp only [Pt.U, Pt.locs, Pt.cells, Pt.slots] at X17 l17 y17 z17 st17 hQ17
          subst l17 y17 z17
          refine Done.far st17 ?_
          obtain ⟨rfl, N17q, e17⟩ := hQ17
          have N17 := Fr.app N0 N17q
          show Done p e below s _ _ _ (T17.setTop (mkF m 151 #[.val (.int p1), .val (.long q2), .second, .val (.int p3), .val (.int i4), .val (.long j5), .second, .val (.ref sx_BYTE), .val (.int (0 : Int32))] [(.int (F2 j5 (-128 : Int64) (127 : Int64)))]))
          refine Done.step (fun t k => XS.iload X17.here hx rfl (hb hby at_151) rfl k) ?_
          show Done p e below s _ _ _ (T17.setTop (mkF m 153 #[.val (.int p1), .val (.long q2), .second, .val (.int p3), .val (.int i4), .val (.long j5), .second, .val (.ref sx_BYTE), .val (.int (0 : Int32))] [(.int (0 : Int32)), (.int (F2 j5 (-128 : Int64) (127 : Int64)))]))
          refine Done.step (fun t k => XS.icmpNo X17.here hx rfl (hb hby at_153) rfl (teq (own_byte_0 j5 c15)).2 k) ?_
          show Done p e below s _ _ _ (T17.setTop (mkF m 156 #[.val (.int p1), .val (.long q2), .second, .val (.int p3), .val (.int i4), .val (.long j5), .second, .val (.ref sx_BYTE), .val (.int (0 : Int32))] []))
          refine Done.step (fun t k => XS.iconst X17.here hx rfl (hb hby at_156) k) ?_
          show Done p e below s _ _ _ (T17.setTop (mkF m 157 #[.val (.int p1), .val (.long q2), .second, .val (.int p3), .val (.int i4), .val (.long j5), .second, .val (.ref sx_BYTE), .val (.int (0 : Int32))] [(.int (1 : Int32))]))
          refine Done.step (fun t k => XS.goto X17.here hx rfl (pc0 := 157) (pc' := 161) rfl (hb hby at_157) (by decide) (by decide) k) ?_
          show Done p e below s _ _ _ (T17.setTop (mkF m 161 #[.val (.int p1), .val (.long q2), .second, .val (.int p3), .val (.int i4), .val (.long j5), .second, .val (.ref sx_BYTE), .val (.int (0 : Int32))] [(.int (1 : Int32))]))
          exact Done.narr X17 hx hlk hret (by simp) (hb hby at_161) (by decide) (by decide) ⟨rfl, N17⟩
theorem pn_0 : plainName "com/example/taulu/taulu/bind/ScalarHoldsPinLaw" = true := by first | (simp [plainName, overriddenIn]; done) | decide +kernel
theorem ef_0 (m : MethodId) (p1 : Int32) (q2 : Int64) (p3 : Int32) : entryFrame m #[(.int p1), (.long q2), (.int p3)] maxLocals = mkF m 0 #[.val (.int p1), .val (.long q2), .second, .val (.int p3), .unset, .unset, .unset, .unset, .unset] [] := by first | (simp [entryFrame, mkF, argsToLocals, Value.category, maxLocals]; done) | rfl
def Qrm0 (Z : State) (p1 : Int32) (q2 : Int64) (p3 : Int32) (sx_LONG : Addr) (sx_BYTE : Addr) (sx_SHORT : Addr) (sx_INT : Addr) (h0 : Heap) (n0 : Nat) : Option Value → Heap → List Loc → Prop := fun v h L => v = some (.int 1) ∧ Fr n0 L
set_option maxRecDepth 65536 in
set_option maxHeartbeats 40000000 in
theorem rm0 (l : Launch) (Z : State) (a0 : Array Value) (hw : ∀ d ∈ tables_1, d.before a0 Z = true) (ws : List Jvm.Cond) (p1 : Int32) (q2 : Int64) (p3 : Int32) (sx_LONG : Addr) (sx_BYTE : Addr) (sx_SHORT : Addr) (sx_INT : Addr) (h0 : Heap) (n0 : Nat) (Z0 : n0 ≤ h0.size) (S_sx_LONG : Sta Z h0 "com/example/taulu/taulu/bind/Scalar" "LONG" "Lcom/example/taulu/taulu/bind/Scalar;" (.ref sx_LONG)) (E_sx_LONG : Exa Z h0 sx_LONG "com/example/taulu/taulu/bind/Scalar") (S_sx_BYTE : Sta Z h0 "com/example/taulu/taulu/bind/Scalar" "BYTE" "Lcom/example/taulu/taulu/bind/Scalar;" (.ref sx_BYTE)) (E_sx_BYTE : Exa Z h0 sx_BYTE "com/example/taulu/taulu/bind/Scalar") (S_sx_SHORT : Sta Z h0 "com/example/taulu/taulu/bind/Scalar" "SHORT" "Lcom/example/taulu/taulu/bind/Scalar;" (.ref sx_SHORT)) (E_sx_SHORT : Exa Z h0 sx_SHORT "com/example/taulu/taulu/bind/Scalar") (S_sx_INT : Sta Z h0 "com/example/taulu/taulu/bind/Scalar" "INT" "Lcom/example/taulu/taulu/bind/Scalar;" (.ref sx_INT)) (E_sx_INT : Exa Z h0 sx_INT "com/example/taulu/taulu/bind/Scalar") (F_sx_LONG_min : Fld Z h0 sx_LONG "com/example/taulu/taulu/bind/Scalar" "min" "J" (.long (-9223372036854775808 : Int64))) (F_sx_LONG_max : Fld Z h0 sx_LONG "com/example/taulu/taulu/bind/Scalar" "max" "J" (.long (9223372036854775807 : Int64))) (F_sx_BYTE_min : Fld Z h0 sx_BYTE "com/example/taulu/taulu/bind/Scalar" "min" "J" (.long (-128 : Int64))) (F_sx_BYTE_max : Fld Z h0 sx_BYTE "com/example/taulu/taulu/bind/Scalar" "max" "J" (.long (127 : Int64))) (F_sx_SHORT_min : Fld Z h0 sx_SHORT "com/example/taulu/taulu/bind/Scalar" "min" "J" (.long (-32768 : Int64))) (F_sx_INT_min : Fld Z h0 sx_INT "com/example/taulu/taulu/bind/Scalar" "min" "J" (.long (-2147483648 : Int64))) (F_sx_INT_max : Fld Z h0 sx_INT "com/example/taulu/taulu/bind/Scalar" "max" "J" (.long (2147483647 : Int64))) (F_sx_SHORT_max : Fld Z h0 sx_SHORT "com/example/taulu/taulu/bind/Scalar" "max" "J" (.long (32767 : Int64))) :
    MetFree l x (head1 (Jvm.Cond.code x code maxLocals ret :: ws) room_1) (fun a U => a = #[(.int p1), (.long q2), (.int p3)] ∧ Z.Warmed39 U.vm ∧ U.heap = h0) (fun _ _ _ _ _ => True) (fun _ U o U' => ∃ v L, o = .returned v ∧ Qrm0 Z p1 q2 p3 sx_LONG sx_BYTE sx_SHORT sx_INT h0 n0 v U'.heap L ∧ FrameEnd U o U' L room_1.cells room_1.slots) := by
  refine MetFree.of_bodySF (plainFor_of_name pn_0) hisR ?_
  intro p e s m args below meth c s₁ Bd hml0 hP hK
  obtain ⟨rfl, hZ, hh⟩ := hP
  have hx := Bd.exec
  have hby := Bd.bytes
  have hml : c.maxLocals = 9 := hml0
  have hown : s.vm.findClass "com/example/taulu/taulu/bind/ScalarHoldsPinLaw" = some m.cls := findClass_of_methodNamed Bd.named
  have hnm := (name_of_methodNamed Bd.named Bd.method).1
  have hlk : meth.locks = false := BodyLoose.notSynchronized Bd
  have hret := Bd.returns
  have X0 : Stand p l e room_1 s m #[(.int p1), (.long q2), (.int p3)] below meth c s₁ [] 0 0 := Stand.of_body Bd
  have e0 : s₁.heap = h0 := by rw [← hh, Bd.state]; rfl
  have N0 := Fr.nil n0
  show Done p e below s (Qrm0 Z p1 q2 p3 sx_LONG sx_BYTE sx_SHORT sx_INT h0 n0) room_1.cells room_1.slots (s₁.setTop (entryFrame m #[(.int p1), (.long q2), (.int p3)] maxLocals))
  refine Done.step (fun t k => castTop (ef_0 m p1 q2 p3) k) ?_
  show Done p e below s _ _ _ (s₁.setTop (mkF m 0 #[.val (.int p1), .val (.long q2), .second, .val (.int p3), .unset, .unset, .unset, .unset, .unset] []))
  refine Done.step (fun t k => XS.iloadN X0.here hx rfl (hb hby at_0) rfl k) ?_
  show Done p e below s _ _ _ (s₁.setTop (mkF m 1 #[.val (.int p1), .val (.long q2), .second, .val (.int p3), .unset, .unset, .unset, .unset, .unset] [(.int p1)]))
  refine Done.step (fun t k => XS.iconst X0.here hx rfl (hb hby at_1) k) ?_
  show Done p e below s _ _ _ (s₁.setTop (mkF m 2 #[.val (.int p1), .val (.long q2), .second, .val (.int p3), .unset, .unset, .unset, .unset, .unset] [(.int (3 : Int32)), (.int p1)]))
  refine Done.step (fun t k => XS.iand X0.here hx rfl (hb hby at_2) rfl k) ?_
  show Done p e below s _ _ _ (s₁.setTop (mkF m 3 #[.val (.int p1), .val (.long q2), .second, .val (.int p3), .unset, .unset, .unset, .unset, .unset] [(.int (p1 &&& (3 : Int32)))]))
  refine Done.step (fun t k => XS.istore X0.here hx rfl (hb hby at_3) rfl (l' := #[.val (.int p1), .val (.long q2), .second, .val (.int p3), .val (.int (p1 &&& (3 : Int32))), .unset, .unset, .unset, .unset]) rfl k) ?_
  show Done p e below s _ _ _ (s₁.setTop (mkF m 5 #[.val (.int p1), .val (.long q2), .second, .val (.int p3), .val (.int (p1 &&& (3 : Int32))), .unset, .unset, .unset, .unset] []))
  refine Done.step (fun t k => XS.lloadN X0.here hx rfl (hb hby at_5) rfl k) ?_
  show Done p e below s _ _ _ (s₁.setTop (mkF m 6 #[.val (.int p1), .val (.long q2), .second, .val (.int p3), .val (.int (p1 &&& (3 : Int32))), .unset, .unset, .unset, .unset] [(.long q2)]))
  refine Done.step (fun t k => XS.lstore X0.here hx rfl (hb hby at_6) rfl (l' := #[.val (.int p1), .val (.long q2), .second, .val (.int p3), .val (.int (p1 &&& (3 : Int32))), .val (.long q2), .second, .unset, .unset]) rfl k) ?_
  show Done p e below s _ _ _ (s₁.setTop (mkF m 8 #[.val (.int p1), .val (.long q2), .second, .val (.int p3), .val (.int (p1 &&& (3 : Int32))), .val (.long q2), .second, .unset, .unset] []))
  refine Done.step (fun t k => XS.iloadN X0.here hx rfl (hb hby at_8) rfl k) ?_
  show Done p e below s _ _ _ (s₁.setTop (mkF m 9 #[.val (.int p1), .val (.long q2), .second, .val (.int p3), .val (.int (p1 &&& (3 : Int32))), .val (.long q2), .second, .unset, .unset] [(.int p3)]))
  refine Done.step (fun t k => XS.iconst X0.here hx rfl (hb hby at_9) k) ?_
  show Done p e below s _ _ _ (s₁.setTop (mkF m 10 #[.val (.int p1), .val (.long q2), .second, .val (.int p3), .val (.int (p1 &&& (3 : Int32))), .val (.long q2), .second, .unset, .unset] [(.int (1 : Int32)), (.int p3)]))
  refine Done.step (fun t k => XS.iand X0.here hx rfl (hb hby at_10) rfl k) ?_
  show Done p e below s _ _ _ (s₁.setTop (mkF m 11 #[.val (.int p1), .val (.long q2), .second, .val (.int p3), .val (.int (p1 &&& (3 : Int32))), .val (.long q2), .second, .unset, .unset] [(.int (p3 &&& (1 : Int32)))]))
  by_cases c1 : (p3 &&& (1 : Int32)) = (0 : Int32)
  · refine Done.step (fun t k => XS.ifYes X0.here hx rfl (pc0 := 11) (pc' := 42) rfl (hb hby at_11) rfl ((if0 _ _).trans (teq c1).1) (by decide) (by decide) k) ?_
    show Done p e below s _ _ _ (s₁.setTop (mkF m 42 #[.val (.int p1), .val (.long q2), .second, .val (.int p3), .val (.int (p1 &&& (3 : Int32))), .val (.long q2), .second, .unset, .unset] []))
    exact blk42 p1 q2 p3 (p1 &&& (3 : Int32)) q2 .unset .unset sx_LONG sx_BYTE sx_SHORT sx_INT X0 hx hZ hw hby hml hown hlk hret hnm N0 Z0 e0 (Or.inl ⟨rfl, rfl⟩) S_sx_LONG E_sx_LONG S_sx_BYTE E_sx_BYTE S_sx_SHORT E_sx_SHORT S_sx_INT E_sx_INT F_sx_LONG_min F_sx_LONG_max F_sx_BYTE_min F_sx_BYTE_max F_sx_SHORT_min F_sx_INT_min F_sx_INT_max F_sx_SHORT_max
  · refine Done.step (fun t k => XS.ifNo X0.here hx rfl (hb hby at_11) rfl ((if0 _ _).trans (feq c1).1) k) ?_
    show Done p e below s _ _ _ (s₁.setTop (mkF m 14 #[.val (.int p1), .val (.long q2), .second, .val (.int p3), .val (.int (p1 &&& (3 : Int32))), .val (.long q2), .second, .unset, .unset] []))
    refine Done.step (fun t k => XS.iload X0.here hx rfl (hb hby at_14) rfl k) ?_
    show Done p e below s _ _ _ (s₁.setTop (mkF m 16 #[.val (.int p1), .val (.long q2), .second, .val (.int p3), .val (.int (p1 &&& (3 : Int32))), .val (.long q2), .second, .unset, .unset] [(.int (p1 &&& (3 : Int32)))]))
    refine Done.step (fun t k => XS.iloadN X0.here hx rfl (hb hby at_16) rfl k) ?_
    show Done p e below s _ _ _ (s₁.setTop (mkF m 17 #[.val (.int p1), .val (.long q2), .second, .val (.int p3), .val (.int (p1 &&& (3 : Int32))), .val (.long q2), .second, .unset, .unset] [(.int p3), (.int (p1 &&& (3 : Int32)))]))
    refine Done.step (fun t k => XS.iconst X0.here hx rfl (hb hby at_17) k) ?_
    show Done p e below s _ _ _ (s₁.setTop (mkF m 18 #[.val (.int p1), .val (.long q2), .second, .val (.int p3), .val (.int (p1 &&& (3 : Int32))), .val (.long q2), .second, .unset, .unset] [(.int (2 : Int32)), (.int p3), (.int (p1 &&& (3 : Int32)))]))
    refine Done.step (fun t k => XS.iand X0.here hx rfl (hb hby at_18) rfl k) ?_
    show Done p e below s _ _ _ (s₁.setTop (mkF m 19 #[.val (.int p1), .val (.long q2), .second, .val (.int p3), .val (.int (p1 &&& (3 : Int32))), .val (.long q2), .second, .unset, .unset] [(.int (p3 &&& (2 : Int32))), (.int (p1 &&& (3 : Int32)))]))
    by_cases c2 : (p3 &&& (2 : Int32)) = (0 : Int32)
    · refine Done.step (fun t k => XS.ifYes X0.here hx rfl (pc0 := 19) (pc' := 26) rfl (hb hby at_19) rfl ((if0 _ _).trans (teq c2).1) (by decide) (by decide) k) ?_
      show Done p e below s _ _ _ (s₁.setTop (mkF m 26 #[.val (.int p1), .val (.long q2), .second, .val (.int p3), .val (.int (p1 &&& (3 : Int32))), .val (.long q2), .second, .unset, .unset] [(.int (p1 &&& (3 : Int32)))]))
      refine Done.step (fun t k => XS.iconst X0.here hx rfl (hb hby at_26) k) ?_
      show Done p e below s _ _ _ (s₁.setTop (mkF m 27 #[.val (.int p1), .val (.long q2), .second, .val (.int p3), .val (.int (p1 &&& (3 : Int32))), .val (.long q2), .second, .unset, .unset] [(.int (0 : Int32)), (.int (p1 &&& (3 : Int32)))]))
      obtain ⟨v3, _, ⟨T3, L3, k3, n3⟩, -, X3, ⟨Lc3, hQ3, l3, y3, z3⟩, st3⟩ := Jvm.LawKit.callS X0 hx (y := (⟨"com/example/taulu/taulu/bind/ScalarHoldsPinLaw", "bound", "(IZ)J"⟩ : MethodName)) hown (mvT hZ (hw _ (List.mem_of_getElem? (i := 0) rfl))) (mvT hZ (hw _ (List.mem_of_getElem? (i := 1) rfl))) (mvT hZ (hw _ (List.mem_of_getElem? (i := 2) rfl))) (mvT hZ (hw _ (List.mem_of_getElem? (i := 3) rfl))) (by decide) (backOf (W := 0) (rm1 l Z a0 hw [] (p1 &&& (3 : Int32)) (0 : Int32) h0 n0 Z0 ) hZ (hw _ (List.mem_of_getElem? (i := 3) rfl)) (hw _ (List.mem_of_getElem? (i := 2) rfl)) (by decide) (by decide)) (g := (mkF m 27 #[.val (.int p1), .val (.long q2), .second, .val (.int p3), .val (.int (p1 &&& (3 : Int32))), .val (.long q2), .second, .unset, .unset] [(.int (0 : Int32)), (.int (p1 &&& (3 : Int32)))])) rfl (by rw [hml]; rfl) (argsL := [(.int (p1 &&& (3 : Int32))), (.int (0 : Int32))]) (rest := []) (lenOf pd_1 rfl) rfl (by show 2 * 0 + _ ≤ _; exact Nat.le_of_eq rfl) (hb hby at_27) (fun _ _ => ⟨rfl, e0, (by decide : 0 + 0 ≤ _), (by decide : 0 + 0 ≤ _)⟩)
      dsimp only [Pt.U, Pt.locs, Pt.cells, Pt.slots] at X3 l3 y3 z3 st3 hQ3
      subst l3 y3 z3
      refine Done.step st3 ?_
      obtain ⟨rfl, N3q, e3⟩ := hQ3
      have N3 := Fr.app N0 N3q
      show Done p e below s _ _ _ (T3.setTop (mkF m 30 #[.val (.int p1), .val (.long q2), .second, .val (.int p3), .val (.int (p1 &&& (3 : Int32))), .val (.long q2), .second, .unset, .unset] [(.long (F1 (p1 &&& (3 : Int32)) (0 : Int32)))]))
      refine Done.step (fun t k => XS.lstore X3.here hx rfl (hb hby at_30) rfl (l' := #[.val (.int p1), .val (.long q2), .second, .val (.int p3), .val (.int (p1 &&& (3 : Int32))), .val (.long q2), .second, .val (.long (F1 (p1 &&& (3 : Int32)) (0 : Int32))), .second]) rfl k) ?_
      show Done p e below s _ _ _ (T3.setTop (mkF m 32 #[.val (.int p1), .val (.long q2), .second, .val (.int p3), .val (.int (p1 &&& (3 : Int32))), .val (.long q2), .second, .val (.long (F1 (p1 &&& (3 : Int32)) (0 : Int32))), .second] []))
      refine Done.step (fun t k => XS.lload X3.here hx rfl (hb hby at_32) rfl k) ?_
      show Done p e below s _ _ _ (T3.setTop (mkF m 34 #[.val (.int p1), .val (.long q2), .second, .val (.int p3), .val (.int (p1 &&& (3 : Int32))), .val (.long q2), .second, .val (.long (F1 (p1 &&& (3 : Int32)) (0 : Int32))), .second] [(.long (F1 (p1 &&& (3 : Int32)) (0 : Int32)))]))
      refine Done.step (fun t k => XS.lloadN X3.here hx rfl (hb hby at_34) rfl k) ?_
      show Done p e below s _ _ _ (T3.setTop (mkF m 35 #[.val (.int p1), .val (.long q2), .second, .val (.int p3), .val (.int (p1 &&& (3 : Int32))), .val (.long q2), .second, .val (.long (F1 (p1 &&& (3 : Int32)) (0 : Int32))), .second] [(.long q2), (.long (F1 (p1 &&& (3 : Int32)) (0 : Int32)))]))
      refine Done.step (X3.ldc2Long hx hown (mvT hZ (hw _ (List.mem_of_getElem? (i := 5) rfl))) (g := (mkF m 35 #[.val (.int p1), .val (.long q2), .second, .val (.int p3), .val (.int (p1 &&& (3 : Int32))), .val (.long q2), .second, .val (.long (F1 (p1 &&& (3 : Int32)) (0 : Int32))), .second] [(.long q2), (.long (F1 (p1 &&& (3 : Int32)) (0 : Int32)))])) rfl (hb hby at_35)) ?_
      show Done p e below s _ _ _ (T3.setTop (mkF m 38 #[.val (.int p1), .val (.long q2), .second, .val (.int p3), .val (.int (p1 &&& (3 : Int32))), .val (.long q2), .second, .val (.long (F1 (p1 &&& (3 : Int32)) (0 : Int32))), .second] [(.long (3 : Int64)), (.long q2), (.long (F1 (p1 &&& (3 : Int32)) (0 : Int32)))]))
      refine Done.step (fun t k => XS.lrem X3.here hx rfl (hb hby at_38) rfl (by decide) k) ?_
      show Done p e below s _ _ _ (T3.setTop (mkF m 39 #[.val (.int p1), .val (.long q2), .second, .val (.int p3), .val (.int (p1 &&& (3 : Int32))), .val (.long q2), .second, .val (.long (F1 (p1 &&& (3 : Int32)) (0 : Int32))), .second] [(.long (q2 - (q2 / (3 : Int64)) * (3 : Int64))), (.long (F1 (p1 &&& (3 : Int32)) (0 : Int32)))]))
      refine Done.step (fun t k => XS.ladd X3.here hx rfl (hb hby at_39) rfl k) ?_
      show Done p e below s _ _ _ (T3.setTop (mkF m 40 #[.val (.int p1), .val (.long q2), .second, .val (.int p3), .val (.int (p1 &&& (3 : Int32))), .val (.long q2), .second, .val (.long (F1 (p1 &&& (3 : Int32)) (0 : Int32))), .second] [(.long ((F1 (p1 &&& (3 : Int32)) (0 : Int32)) + (q2 - (q2 / (3 : Int64)) * (3 : Int64))))]))
      refine Done.step (fun t k => XS.lstore X3.here hx rfl (hb hby at_40) rfl (l' := #[.val (.int p1), .val (.long q2), .second, .val (.int p3), .val (.int (p1 &&& (3 : Int32))), .val (.long ((F1 (p1 &&& (3 : Int32)) (0 : Int32)) + (q2 - (q2 / (3 : Int64)) * (3 : Int64)))), .second, .val (.long (F1 (p1 &&& (3 : Int32)) (0 : Int32))), .second]) rfl k) ?_
      show Done p e below s _ _ _ (T3.setTop (mkF m 42 #[.val (.int p1), .val (.long q2), .second, .val (.int p3), .val (.int (p1 &&& (3 : Int32))), .val (.long ((F1 (p1 &&& (3 : Int32)) (0 : Int32)) + (q2 - (q2 / (3 : Int64)) * (3 : Int64)))), .second, .val (.long (F1 (p1 &&& (3 : Int32)) (0 : Int32))), .second] []))
      exact blk42 p1 q2 p3 (p1 &&& (3 : Int32)) ((F1 (p1 &&& (3 : Int32)) (0 : Int32)) + (q2 - (q2 / (3 : Int64)) * (3 : Int64))) (.val (.long (F1 (p1 &&& (3 : Int32)) (0 : Int32)))) .second sx_LONG sx_BYTE sx_SHORT sx_INT X3 hx hZ hw hby hml hown hlk hret hnm N3 Z0 e3 (Or.inr ⟨_, rfl, rfl⟩) S_sx_LONG E_sx_LONG S_sx_BYTE E_sx_BYTE S_sx_SHORT E_sx_SHORT S_sx_INT E_sx_INT F_sx_LONG_min F_sx_LONG_max F_sx_BYTE_min F_sx_BYTE_max F_sx_SHORT_min F_sx_INT_min F_sx_INT_max F_sx_SHORT_max
    · refine Done.step (fun t k => XS.ifNo X0.here hx rfl (hb hby at_19) rfl ((if0 _ _).trans (feq c2).1) k) ?_
      show Done p e below s _ _ _ (s₁.setTop (mkF m 22 #[.val (.int p1), .val (.long q2), .second, .val (.int p3), .val (.int (p1 &&& (3 : Int32))), .val (.long q2), .second, .unset, .unset] [(.int (p1 &&& (3 : Int32)))]))
      refine Done.step (fun t k => XS.iconst X0.here hx rfl (hb hby at_22) k) ?_
      show Done p e below s _ _ _ (s₁.setTop (mkF m 23 #[.val (.int p1), .val (.long q2), .second, .val (.int p3), .val (.int (p1 &&& (3 : Int32))), .val (.long q2), .second, .unset, .unset] [(.int (1 : Int32)), (.int (p1 &&& (3 : Int32)))]))
      refine Done.step (fun t k => XS.goto X0.here hx rfl (pc0 := 23) (pc' := 27) rfl (hb hby at_23) (by decide) (by decide) k) ?_
      show Done p e below s _ _ _ (s₁.setTop (mkF m 27 #[.val (.int p1), .val (.long q2), .second, .val (.int p3), .val (.int (p1 &&& (3 : Int32))), .val (.long q2), .second, .unset, .unset] [(.int (1 : Int32)), (.int (p1 &&& (3 : Int32)))]))
      obtain ⟨v4, _, ⟨T4, L4, k4, n4⟩, -, X4, ⟨Lc4, hQ4, l4, y4, z4⟩, st4⟩ := Jvm.LawKit.callS X0 hx (y := (⟨"com/example/taulu/taulu/bind/ScalarHoldsPinLaw", "bound", "(IZ)J"⟩ : MethodName)) hown (mvT hZ (hw _ (List.mem_of_getElem? (i := 0) rfl))) (mvT hZ (hw _ (List.mem_of_getElem? (i := 1) rfl))) (mvT hZ (hw _ (List.mem_of_getElem? (i := 2) rfl))) (mvT hZ (hw _ (List.mem_of_getElem? (i := 3) rfl))) (by decide) (backOf (W := 0) (rm1 l Z a0 hw [] (p1 &&& (3 : Int32)) (1 : Int32) h0 n0 Z0 ) hZ (hw _ (List.mem_of_getElem? (i := 3) rfl)) (hw _ (List.mem_of_getElem? (i := 2) rfl)) (by decide) (by decide)) (g := (mkF m 27 #[.val (.int p1), .val (.long q2), .second, .val (.int p3), .val (.int (p1 &&& (3 : Int32))), .val (.long q2), .second, .unset, .unset] [(.int (1 : Int32)), (.int (p1 &&& (3 : Int32)))])) rfl (by rw [hml]; rfl) (argsL := [(.int (p1 &&& (3 : Int32))), (.int (1 : Int32))]) (rest := []) (lenOf pd_1 rfl) rfl (by show 2 * 0 + _ ≤ _; exact Nat.le_of_eq rfl) (hb hby at_27) (fun _ _ => ⟨rfl, e0, (by decide : 0 + 0 ≤ _), (by decide : 0 + 0 ≤ _)⟩)
      dsimp only [Pt.U, Pt.locs, Pt.cells, Pt.slots] at X4 l4 y4 z4 st4 hQ4
      subst l4 y4 z4
      refine Done.step st4 ?_
      obtain ⟨rfl, N4q, e4⟩ := hQ4
      have N4 := Fr.app N0 N4q
      show Done p e below s _ _ _ (T4.setTop (mkF m 30 #[.val (.int p1), .val (.long q2), .second, .val (.int p3), .val (.int (p1 &&& (3 : Int32))), .val (.long q2), .second, .unset, .unset] [(.long (F1 (p1 &&& (3 : Int32)) (1 : Int32)))]))
      refine Done.step (fun t k => XS.lstore X4.here hx rfl (hb hby at_30) rfl (l' := #[.val (.int p1), .val (.long q2), .second, .val (.int p3), .val (.int (p1 &&& (3 : Int32))), .val (.long q2), .second, .val (.long (F1 (p1 &&& (3 : Int32)) (1 : Int32))), .second]) rfl k) ?_
      show Done p e below s _ _ _ (T4.setTop (mkF m 32 #[.val (.int p1), .val (.long q2), .second, .val (.int p3), .val (.int (p1 &&& (3 : Int32))), .val (.long q2), .second, .val (.long (F1 (p1 &&& (3 : Int32)) (1 : Int32))), .second] []))
      refine Done.step (fun t k => XS.lload X4.here hx rfl (hb hby at_32) rfl k) ?_
      show Done p e below s _ _ _ (T4.setTop (mkF m 34 #[.val (.int p1), .val (.long q2), .second, .val (.int p3), .val (.int (p1 &&& (3 : Int32))), .val (.long q2), .second, .val (.long (F1 (p1 &&& (3 : Int32)) (1 : Int32))), .second] [(.long (F1 (p1 &&& (3 : Int32)) (1 : Int32)))]))
      refine Done.step (fun t k => XS.lloadN X4.here hx rfl (hb hby at_34) rfl k) ?_
      show Done p e below s _ _ _ (T4.setTop (mkF m 35 #[.val (.int p1), .val (.long q2), .second, .val (.int p3), .val (.int (p1 &&& (3 : Int32))), .val (.long q2), .second, .val (.long (F1 (p1 &&& (3 : Int32)) (1 : Int32))), .second] [(.long q2), (.long (F1 (p1 &&& (3 : Int32)) (1 : Int32)))]))
      refine Done.step (X4.ldc2Long hx hown (mvT hZ (hw _ (List.mem_of_getElem? (i := 5) rfl))) (g := (mkF m 35 #[.val (.int p1), .val (.long q2), .second, .val (.int p3), .val (.int (p1 &&& (3 : Int32))), .val (.long q2), .second, .val (.long (F1 (p1 &&& (3 : Int32)) (1 : Int32))), .second] [(.long q2), (.long (F1 (p1 &&& (3 : Int32)) (1 : Int32)))])) rfl (hb hby at_35)) ?_
      show Done p e below s _ _ _ (T4.setTop (mkF m 38 #[.val (.int p1), .val (.long q2), .second, .val (.int p3), .val (.int (p1 &&& (3 : Int32))), .val (.long q2), .second, .val (.long (F1 (p1 &&& (3 : Int32)) (1 : Int32))), .second] [(.long (3 : Int64)), (.long q2), (.long (F1 (p1 &&& (3 : Int32)) (1 : Int32)))]))
      refine Done.step (fun t k => XS.lrem X4.here hx rfl (hb hby at_38) rfl (by decide) k) ?_
      show Done p e below s _ _ _ (T4.setTop (mkF m 39 #[.val (.int p1), .val (.long q2), .second, .val (.int p3), .val (.int (p1 &&& (3 : Int32))), .val (.long q2), .second, .val (.long (F1 (p1 &&& (3 : Int32)) (1 : Int32))), .second] [(.long (q2 - (q2 / (3 : Int64)) * (3 : Int64))), (.long (F1 (p1 &&& (3 : Int32)) (1 : Int32)))]))
      refine Done.step (fun t k => XS.ladd X4.here hx rfl (hb hby at_39) rfl k) ?_
      show Done p e below s _ _ _ (T4.setTop (mkF m 40 #[.val (.int p1), .val (.long q2), .second, .val (.int p3), .val (.int (p1 &&& (3 : Int32))), .val (.long q2), .second, .val (.long (F1 (p1 &&& (3 : Int32)) (1 : Int32))), .second] [(.long ((F1 (p1 &&& (3 : Int32)) (1 : Int32)) + (q2 - (q2 / (3 : Int64)) * (3 : Int64))))]))
      refine Done.step (fun t k => XS.lstore X4.here hx rfl (hb hby at_40) rfl (l' := #[.val (.int p1), .val (.long q2), .second, .val (.int p3), .val (.int (p1 &&& (3 : Int32))), .val (.long ((F1 (p1 &&& (3 : Int32)) (1 : Int32)) + (q2 - (q2 / (3 : Int64)) * (3 : Int64)))), .second, .val (.long (F1 (p1 &&& (3 : Int32)) (1 : Int32))), .second]) rfl k) ?_
      show Done p e below s _ _ _ (T4.setTop (mkF m 42 #[.val (.int p1), .val (.long q2), .second, .val (.int p3), .val (.int (p1 &&& (3 : Int32))), .val (.long ((F1 (p1 &&& (3 : Int32)) (1 : Int32)) + (q2 - (q2 / (3 : Int64)) * (3 : Int64)))), .second, .val (.long (F1 (p1 &&& (3 : Int32)) (1 : Int32))), .second] []))
      exact blk42 p1 q2 p3 (p1 &&& (3 : Int32)) ((F1 (p1 &&& (3 : Int32)) (1 : Int32)) + (q2 - (q2 / (3 : Int64)) * (3 : Int64))) (.val (.long (F1 (p1 &&& (3 : Int32)) (1 : Int32)))) .second sx_LONG sx_BYTE sx_SHORT sx_INT X4 hx hZ hw hby hml hown hlk hret hnm N4 Z0 e4 (Or.inr ⟨_, rfl, rfl⟩) S_sx_LONG E_sx_LONG S_sx_BYTE E_sx_BYTE S_sx_SHORT E_sx_SHORT S_sx_INT E_sx_INT F_sx_LONG_min F_sx_LONG_max F_sx_BYTE_min F_sx_BYTE_max F_sx_SHORT_min F_sx_INT_min F_sx_INT_max F_sx_SHORT_max
set_option maxRecDepth 65536 in
set_option maxHeartbeats 40000000 in
theorem comes_1 {Post : Tables → Env → Array Value → State → Outcome → State → Prop} (hpost : ∀ tb e args s v u, (limb_1_1.after args s (.returned v) u = true ∧ limb_1_2.after args s (.returned v) u = true ∧ True) → FrameEnd s (.returned v) u (Jvm.fieldLocs frame_1_writes args s ++ Jvm.arrayLocs frame_1_arrays args s ++ Jvm.staticLocs frame_1_statics s) 0 0 → Post tb e args s (.returned v) u) :
    ArmFor flags0 classFile x code maxLocals ret World_1 tables_1 room_1 Calls_1 rest_1 Pre_1 Post := by
  intro l hfl _ _ p e ha hc hk s m args below hf hA hF happ hP
  obtain ⟨hcalls, hrest, hpre⟩ := hP
  obtain ⟨-, -, -, hnamed, -, -, -, hat⟩ := (Spec.applies_iff hf).mp happ
  obtain ⟨hg, hn⟩ := and_e (Cond.before_iff.mp (show (Jvm.Cond.and given_1 narrow_1).before args s = true from hpre))
  obtain ⟨hcnt, g0⟩ := and_e hg
  obtain ⟨u0, g1⟩ := and_e g0
  obtain ⟨u1, g2⟩ := and_e g1
  have u2 := g2
  obtain ⟨w0, w1, w2, rfl⟩ : ∃ w0 w1 w2 : Value, args = #[w0, w1, w2] := by
    have hs : args.size = 3 := by simpa [Cond.value, given_1] using hcnt
    obtain ⟨L⟩ := args
    match L, hs with
    | [w0, w1, w2], _ => exact ⟨w0, w1, w2, rfl⟩
  have hw := fun d (hd : d ∈ tables_1) => atoms_spec (ws := Jvm.Cond.code x code maxLocals ret :: tables_1) hat d (List.mem_cons_of_mem _ hd)
  have hfit : Fit s := fun {y c} hc i hi => by
    obtain ⟨ha, rfl⟩ := Array.getElem?_eq_some_iff.mp hc
    have q := List.all_eq_true.mp ((Array.all_eq_true_iff_forall_mem.mp hF) _ (Array.getElem_mem ha)) i (List.mem_range.mpr hi)
    simpa [Array.getElem?_eq_getElem hi] using q
  obtain ⟨i0, ei0⟩ := is_v u0
  obtain rfl : w0 = (.int i0) := Option.some.inj ei0
  obtain ⟨i1, ei1⟩ := isL_v u1
  obtain rfl : w1 = (.long i1) := Option.some.inj ei1
  obtain ⟨i2, ei2⟩ := is_v u2
  obtain rfl : w2 = (.int i2) := Option.some.inj ei2
  obtain ⟨nn0, nr0⟩ := and_e hn
  obtain ⟨nn1, nr1⟩ := and_e nr0
  obtain ⟨nn2, nr2⟩ := and_e nr1
  obtain ⟨nn3, nr3⟩ := and_e nr2
  obtain ⟨nn4, nr4⟩ := and_e nr3
  obtain ⟨nn5, nr5⟩ := and_e nr4
  obtain ⟨nn6, nr6⟩ := and_e nr5
  obtain ⟨nn7, nr7⟩ := and_e nr6
  obtain ⟨nn8, nr8⟩ := and_e nr7
  obtain ⟨nn9, nr9⟩ := and_e nr8
  obtain ⟨nn10, nr10⟩ := and_e nr9
  have nn11 := nr10
  obtain ⟨sx_LONG, ev_sx_LONG⟩ := exa_v nn0
  obtain ⟨sx_BYTE, ev_sx_BYTE⟩ := exa_v nn3
  obtain ⟨sx_SHORT, ev_sx_SHORT⟩ := exa_v nn6
  obtain ⟨sx_INT, ev_sx_INT⟩ := exa_v nn8
  obtain ⟨n, o, h1, h2, h3, _, L, rfl, ⟨rfl, N⟩, hq⟩ := rm0 l s _ hw tables_1 i0 i1 i2 sx_LONG sx_BYTE sx_SHORT sx_INT s.heap s.heap.size (Nat.le_refl _) (Sta.start ev_sx_LONG (Or.inr ⟨(hw _ (List.mem_of_getElem? (i := 7) rfl)), (hw _ (List.mem_of_getElem? (i := 8) rfl))⟩)) (Exa.start ev_sx_LONG nn0) (Sta.start ev_sx_BYTE (Or.inr ⟨(hw _ (List.mem_of_getElem? (i := 7) rfl)), (hw _ (List.mem_of_getElem? (i := 19) rfl))⟩)) (Exa.start ev_sx_BYTE nn3) (Sta.start ev_sx_SHORT (Or.inr ⟨(hw _ (List.mem_of_getElem? (i := 7) rfl)), (hw _ (List.mem_of_getElem? (i := 21) rfl))⟩)) (Exa.start ev_sx_SHORT nn6) (Sta.start ev_sx_INT (Or.inr ⟨(hw _ (List.mem_of_getElem? (i := 7) rfl)), (hw _ (List.mem_of_getElem? (i := 23) rfl))⟩)) (Exa.start ev_sx_INT nn8) (fld_long nn1 ev_sx_LONG) (fld_long nn2 ev_sx_LONG) (fld_long nn4 ev_sx_BYTE) (fld_long nn5 ev_sx_BYTE) (fld_long nn7 ev_sx_SHORT) (fld_long nn9 ev_sx_INT) (fld_long nn10 ev_sx_INT) (fld_long nn11 ev_sx_SHORT) p e ha hc hk s m _ below hf ((Spec.applies_iff_loose hf).mp happ).1 ⟨rfl, State.Warmed39.refl s, rfl⟩ trivial
  refine ⟨n, _, h1, h2, h3, hpost _ _ _ _ _ _ ⟨Cond.after_iff.mpr rfl, Cond.after_iff.mpr (eq_i res_at (Term.int_eval (1)) rfl), trivial⟩ ⟨hq.1, hq.2.1, (hq.2.2.sift fun y hy => Or.inr (N y hy)).mono (by decide) (by decide)⟩⟩
theorem main_1_1 : Claimed_1_1 := comes_1 fun _ _ _ _ _ _ h hF => ⟨h.1, hF⟩
theorem main_1_2 : Claimed_1_2 := comes_1 fun _ _ _ _ _ _ h hF => ⟨h.2.1, hF⟩
end Jvm.Pilot.@@N@@
namespace Jvm.Pilot.@@N@@
open Jvm Jvm.ClassFile Sem Op Lib Jvm.Free Jvm.Stand Jvm.Pilot.@@N@@.Jvm.D
/-! MADE BY PROGRAM (witnessworld.py) out of the Statement's table words and the real class files: 13 classes; the members and pool entries that the words name. The judged class is class 1, her method 1. -/
namespace start1
open Jvm.ClassFile
def u (s : String) : CpInfo := .utf8 (stringToUtf16 s)
/-- a pool by its gaps: so many unusable entries, then the entry; so many at the end -/
def gap : Nat → List CpInfo → List CpInfo
  | 0, r => r
  | n + 1, r => .unusable :: gap n r
def poolList (es : List (Nat × CpInfo)) (last : Nat) : List CpInfo := es.foldr (fun e r => gap e.1 (e.2 :: r)) (gap last [])
def pool (es : List (Nat × CpInfo)) (last : Nat) : Array CpInfo := ⟨poolList es last⟩
def fileOf (pool : Array CpInfo) (this : Nat) (attrs : Array Attribute := #[]) (ms : Array MethodInfo := #[]) (fl : Nat := 33) (sup : Nat := 0) (ifs : Array Nat := #[]) (fds : Array FieldInfo := #[]) : ClassFile where
  minorVersion := 0
  majorVersion := 65
  constantPool := pool
  accessFlags := fl
  thisClass := this
  superClass := sup
  interfaces := ifs
  fields := fds
  methods := ms
  attributes := attrs
def plain (name : String) (sup : Option ClassId) : Class where
  name := name
  kind := .ordinary
  loader := none
  accessFlags := 33
  super := sup
  interfaces := #[]
  cf := none
  fields := #[]
  methods := #[]
  instanceTypes := #[]
  staticTypes := #[]
  resolved := #[]
  callSites := []
  init := .initialized
  statics := none
  mirror := none

def pool0 : Array CpInfo := pool [(5, u "<init>"), (0, u "()V"), (1, .class_ 10), (1, u "java/lang/Object")] 113

def k0m0 : Method := { name := "<init>", desc := "()V", sig := { parameters := [], returnType := none }, accessFlags := 1, code := none }
/-- java/lang/Object -/
def k0 : Class := { plain "java/lang/Object" none with
  accessFlags := 33
  interfaces := #[]
  cf := some (fileOf pool0 8 #[] #[{ accessFlags := 1, nameIndex := 5, descriptorIndex := 6, attributes := #[] }] 33 0 #[] #[])
  fields := #[]
  methods := #[k0m0]
  instanceTypes := #[]
  staticTypes := #[]
  resolved := Array.replicate 124 none
  statics := none }

def pool1 : Array CpInfo := pool [(2, .class_ 4), (1, u "java/lang/Object"), (0, u "<init>"), (0, u "()V"), (0, .methodref 8 9), (0, .class_ 10), (0, .nameAndType 11 12), (0, u "com/example/taulu/taulu/bind/ScalarHoldsPinLaw"), (0, u "bound"), (0, u "(IZ)J"), (0, .long 3), (1, .fieldref 16 17), (0, .class_ 18), (0, .nameAndType 19 20), (0, u "com/example/taulu/taulu/bind/Scalar"), (0, u "LONG"), (0, u "Lcom/example/taulu/taulu/bind/Scalar;"), (0, .fieldref 16 22), (0, .nameAndType 23 20), (0, u "INT"), (0, .fieldref 16 25), (0, .nameAndType 26 20), (0, u "SHORT"), (0, .fieldref 16 28), (0, .nameAndType 29 20), (0, u "BYTE"), (0, .methodref 16 31), (0, .nameAndType 32 33), (0, u "holds"), (0, u "(J)Z"), (2, .long 9223372036854775807), (1, .long 9223372036854775808), (3, .long 2147483647), (1, .long 18446744071562067968), (3, .long 32767), (1, .long 18446744073709518848), (3, .long 127), (1, .long 18446744073709551488), (3, u "law"), (0, u "(IJI)Z")] 3

def k1m0 : Method := { name := "<init>", desc := "()V", sig := { parameters := [], returnType := none }, accessFlags := 2, code := none }
def k1c1 : Code := { maxStack := 6, maxLocals := 9, code := code, exceptionTable := #[], attributes := #[] }
def k1m1 : Method := { name := "law", desc := "(IJI)Z", sig := { parameters := [.int, .long, .int], returnType := some .boolean }, accessFlags := 9, code := some k1c1 }
def k1c2 : Code := { maxStack := 2, maxLocals := 2, code := method_3_code, exceptionTable := #[], attributes := #[] }
def k1m2 : Method := { name := "bound", desc := "(IZ)J", sig := { parameters := [.int, .boolean], returnType := some .long }, accessFlags := 10, code := some k1c2 }
/-- com/example/taulu/taulu/bind/ScalarHoldsPinLaw -/
def k1 : Class := { plain "com/example/taulu/taulu/bind/ScalarHoldsPinLaw" (some 0) with
  accessFlags := 49
  interfaces := #[]
  cf := some (fileOf pool1 8 #[] #[{ accessFlags := 2, nameIndex := 5, descriptorIndex := 6, attributes := #[] }, { accessFlags := 9, nameIndex := 60, descriptorIndex := 61, attributes := #[] }, { accessFlags := 10, nameIndex := 11, descriptorIndex := 12, attributes := #[] }] 49 2 #[] #[])
  fields := #[]
  methods := #[k1m0, k1m1, k1m2]
  instanceTypes := #[]
  staticTypes := #[]
  resolved := Array.replicate 65 none
  statics := none }

def pool2 : Array CpInfo := pool [(1, .class_ 2), (0, u "java/lang/constant/Constable"), (0, .class_ 4), (0, u "java/lang/Object")] 6

/-- java/lang/constant/Constable -/
def k2 : Class := { plain "java/lang/constant/Constable" (some 0) with
  accessFlags := 1537
  interfaces := #[]
  cf := some (fileOf pool2 1 #[] #[] 1537 3 #[] #[])
  fields := #[]
  methods := #[]
  instanceTypes := #[]
  staticTypes := #[]
  resolved := Array.replicate 11 none
  statics := none }

def pool3 : Array CpInfo := pool [(1, .class_ 2), (0, u "java/lang/Comparable"), (0, .class_ 4), (0, u "java/lang/Object")] 7

/-- java/lang/Comparable -/
def k3 : Class := { plain "java/lang/Comparable" (some 0) with
  accessFlags := 1537
  interfaces := #[]
  cf := some (fileOf pool3 1 #[] #[] 1537 3 #[] #[])
  fields := #[]
  methods := #[]
  instanceTypes := #[]
  staticTypes := #[]
  resolved := Array.replicate 12 none
  statics := none }

def pool4 : Array CpInfo := pool [(1, .class_ 2), (0, u "java/io/Serializable"), (0, .class_ 4), (0, u "java/lang/Object")] 2

/-- java/io/Serializable -/
def k4 : Class := { plain "java/io/Serializable" (some 0) with
  accessFlags := 1537
  interfaces := #[]
  cf := some (fileOf pool4 1 #[] #[] 1537 3 #[] #[])
  fields := #[]
  methods := #[]
  instanceTypes := #[]
  staticTypes := #[]
  resolved := Array.replicate 7 none
  statics := none }

def pool5 : Array CpInfo := pool [(2, .class_ 4), (1, u "java/lang/Enum"), (0, u "name"), (0, u "Ljava/lang/String;"), (2, u "ordinal"), (0, u "I"), (1, .class_ 14), (1, u "java/lang/Object"), (4, u "hash"), (86, .class_ 108), (1, u "java/lang/Enum$EnumDesc"), (2, .class_ 112), (0, u "java/lang/constant/Constable"), (0, .class_ 114), (0, u "java/lang/Comparable"), (0, .class_ 116), (0, u "java/io/Serializable")] 87

/-- java/lang/Enum -/
def k5 : Class := { plain "java/lang/Enum" (some 0) with
  accessFlags := 1057
  interfaces := #[2, 3, 4]
  cf := some (fileOf pool5 2 #[.nestMembers #[106]] #[] 1057 12 #[111, 113, 115] #[{ accessFlags := 18, nameIndex := 5, descriptorIndex := 6, attributes := #[] }, { accessFlags := 18, nameIndex := 9, descriptorIndex := 10, attributes := #[] }, { accessFlags := 2, nameIndex := 19, descriptorIndex := 10, attributes := #[] }])
  fields := #[{ name := "name", type := (.object "java/lang/String"), accessFlags := 18, slot := 0, constantValue := 0 }, { name := "ordinal", type := .int, accessFlags := 18, slot := 1, constantValue := 0 }, { name := "hash", type := .int, accessFlags := 2, slot := 2, constantValue := 0 }]
  methods := #[]
  instanceTypes := #[(.object "java/lang/String"), .int, .int]
  staticTypes := #[]
  resolved := Array.replicate 204 none
  statics := none }

def pool6 : Array CpInfo := pool [(1, .class_ 2), (0, u "com/example/taulu/taulu/bind/Target"), (0, .class_ 4), (0, u "java/lang/Object")] 17

/-- com/example/taulu/taulu/bind/Target -/
def k6 : Class := { plain "com/example/taulu/taulu/bind/Target" (some 0) with
  accessFlags := 1536
  interfaces := #[]
  cf := some (fileOf pool6 1 #[] #[] 1536 3 #[] #[])
  fields := #[]
  methods := #[]
  instanceTypes := #[]
  staticTypes := #[]
  resolved := Array.replicate 22 none
  statics := none }

def pool7 : Array CpInfo := pool [(1, .class_ 2), (0, u "com/example/taulu/taulu/bind/Scalar"), (2, u "STRING"), (0, u "Lcom/example/taulu/taulu/bind/Scalar;"), (2, u "LONG"), (2, u "INT"), (2, u "SHORT"), (2, u "BYTE"), (2, u "DOUBLE"), (2, u "FLOAT"), (2, u "BOOLEAN"), (2, u "OFFSET_DATE_TIME"), (2, u "LOCAL_DATE_TIME"), (2, u "LOCAL_DATE"), (2, u "LOCAL_TIME"), (2, u "ANY"), (2, u "$VALUES"), (0, u "[Lcom/example/taulu/taulu/bind/Scalar;"), (6, .class_ 55), (1, u "java/lang/Enum"), (13, u "tomlType"), (0, u "Ljava/lang/String;"), (2, u "read"), (0, u "Ljava/lang/Class;"), (0, .fieldref 1 76), (0, .nameAndType 77 78), (0, u "min"), (0, u "J"), (0, .fieldref 1 80), (0, .nameAndType 81 78), (0, u "max"), (2, u "BY_TYPE"), (0, u "Ljava/util/Map;"), (140, .class_ 227), (0, u "com/example/taulu/taulu/bind/Target"), (18, u "holds"), (0, u "(J)Z")] 26

def k7c0 : Code := { maxStack := 4, maxLocals := 3, code := prog_17_method_11_code, exceptionTable := #[], attributes := #[] }
def k7m0 : Method := { name := "holds", desc := "(J)Z", sig := { parameters := [.long], returnType := some .boolean }, accessFlags := 0, code := some k7c0 }
/-- com/example/taulu/taulu/bind/Scalar -/
def k7 : Class := { plain "com/example/taulu/taulu/bind/Scalar" (some 5) with
  accessFlags := 16432
  interfaces := #[6]
  cf := some (fileOf pool7 1 #[] #[{ accessFlags := 0, nameIndex := 246, descriptorIndex := 247, attributes := #[] }] 16432 53 #[226] #[{ accessFlags := 16409, nameIndex := 5, descriptorIndex := 6, attributes := #[] }, { accessFlags := 16409, nameIndex := 9, descriptorIndex := 6, attributes := #[] }, { accessFlags := 16409, nameIndex := 12, descriptorIndex := 6, attributes := #[] }, { accessFlags := 16409, nameIndex := 15, descriptorIndex := 6, attributes := #[] }, { accessFlags := 16409, nameIndex := 18, descriptorIndex := 6, attributes := #[] }, { accessFlags := 16409, nameIndex := 21, descriptorIndex := 6, attributes := #[] }, { accessFlags := 16409, nameIndex := 24, descriptorIndex := 6, attributes := #[] }, { accessFlags := 16409, nameIndex := 27, descriptorIndex := 6, attributes := #[] }, { accessFlags := 16409, nameIndex := 30, descriptorIndex := 6, attributes := #[] }, { accessFlags := 16409, nameIndex := 33, descriptorIndex := 6, attributes := #[] }, { accessFlags := 16409, nameIndex := 36, descriptorIndex := 6, attributes := #[] }, { accessFlags := 16409, nameIndex := 39, descriptorIndex := 6, attributes := #[] }, { accessFlags := 16409, nameIndex := 42, descriptorIndex := 6, attributes := #[] }, { accessFlags := 26, nameIndex := 84, descriptorIndex := 85, attributes := #[] }, { accessFlags := 18, nameIndex := 69, descriptorIndex := 70, attributes := #[] }, { accessFlags := 18, nameIndex := 73, descriptorIndex := 74, attributes := #[] }, { accessFlags := 18, nameIndex := 77, descriptorIndex := 78, attributes := #[] }, { accessFlags := 18, nameIndex := 81, descriptorIndex := 78, attributes := #[] }, { accessFlags := 4122, nameIndex := 45, descriptorIndex := 46, attributes := #[] }])
  fields := #[{ name := "STRING", type := (.object "com/example/taulu/taulu/bind/Scalar"), accessFlags := 16409, slot := 0, constantValue := 0 }, { name := "LONG", type := (.object "com/example/taulu/taulu/bind/Scalar"), accessFlags := 16409, slot := 1, constantValue := 0 }, { name := "INT", type := (.object "com/example/taulu/taulu/bind/Scalar"), accessFlags := 16409, slot := 2, constantValue := 0 }, { name := "SHORT", type := (.object "com/example/taulu/taulu/bind/Scalar"), accessFlags := 16409, slot := 3, constantValue := 0 }, { name := "BYTE", type := (.object "com/example/taulu/taulu/bind/Scalar"), accessFlags := 16409, slot := 4, constantValue := 0 }, { name := "DOUBLE", type := (.object "com/example/taulu/taulu/bind/Scalar"), accessFlags := 16409, slot := 5, constantValue := 0 }, { name := "FLOAT", type := (.object "com/example/taulu/taulu/bind/Scalar"), accessFlags := 16409, slot := 6, constantValue := 0 }, { name := "BOOLEAN", type := (.object "com/example/taulu/taulu/bind/Scalar"), accessFlags := 16409, slot := 7, constantValue := 0 }, { name := "OFFSET_DATE_TIME", type := (.object "com/example/taulu/taulu/bind/Scalar"), accessFlags := 16409, slot := 8, constantValue := 0 }, { name := "LOCAL_DATE_TIME", type := (.object "com/example/taulu/taulu/bind/Scalar"), accessFlags := 16409, slot := 9, constantValue := 0 }, { name := "LOCAL_DATE", type := (.object "com/example/taulu/taulu/bind/Scalar"), accessFlags := 16409, slot := 10, constantValue := 0 }, { name := "LOCAL_TIME", type := (.object "com/example/taulu/taulu/bind/Scalar"), accessFlags := 16409, slot := 11, constantValue := 0 }, { name := "ANY", type := (.object "com/example/taulu/taulu/bind/Scalar"), accessFlags := 16409, slot := 12, constantValue := 0 }, { name := "BY_TYPE", type := (.object "java/util/Map"), accessFlags := 26, slot := 13, constantValue := 0 }, { name := "tomlType", type := (.object "java/lang/String"), accessFlags := 18, slot := 3, constantValue := 0 }, { name := "read", type := (.object "java/lang/Class"), accessFlags := 18, slot := 4, constantValue := 0 }, { name := "min", type := .long, accessFlags := 18, slot := 5, constantValue := 0 }, { name := "max", type := .long, accessFlags := 18, slot := 6, constantValue := 0 }, { name := "$VALUES", type := (.array (.object "com/example/taulu/taulu/bind/Scalar")), accessFlags := 4122, slot := 14, constantValue := 0 }]
  methods := #[k7m0]
  instanceTypes := #[(.object "java/lang/String"), .int, .int, (.object "java/lang/String"), (.object "java/lang/Class"), .long, .long]
  staticTypes := #[(.object "com/example/taulu/taulu/bind/Scalar"), (.object "com/example/taulu/taulu/bind/Scalar"), (.object "com/example/taulu/taulu/bind/Scalar"), (.object "com/example/taulu/taulu/bind/Scalar"), (.object "com/example/taulu/taulu/bind/Scalar"), (.object "com/example/taulu/taulu/bind/Scalar"), (.object "com/example/taulu/taulu/bind/Scalar"), (.object "com/example/taulu/taulu/bind/Scalar"), (.object "com/example/taulu/taulu/bind/Scalar"), (.object "com/example/taulu/taulu/bind/Scalar"), (.object "com/example/taulu/taulu/bind/Scalar"), (.object "com/example/taulu/taulu/bind/Scalar"), (.object "com/example/taulu/taulu/bind/Scalar"), (.object "java/util/Map"), (.array (.object "com/example/taulu/taulu/bind/Scalar"))]
  resolved := Array.replicate 274 none
  statics := some 0 }

def pool8 : Array CpInfo := pool [(1, u "java/lang/Cloneable"), (0, .class_ 1), (0, u "java/lang/Object"), (0, .class_ 3)] 3

/-- java/lang/Cloneable -/
def k8 : Class := { plain "java/lang/Cloneable" (some 0) with
  accessFlags := 1537
  interfaces := #[]
  cf := some (fileOf pool8 2 #[] #[] 1537 4 #[] #[])
  fields := #[]
  methods := #[]
  instanceTypes := #[]
  staticTypes := #[]
  resolved := Array.replicate 8 none
  statics := none }

/-- the primitive byte -/
def k9 : Class := { plain "byte" none with kind := .primitive 'B', accessFlags := 0x411 }
/-- [B -/
def k10 : Class := { plain "[B" (some 0) with kind := .array 9 .byte, interfaces := #[8, 4], accessFlags := 1041 }

/-- the primitive int -/
def k11 : Class := { plain "int" none with kind := .primitive 'I', accessFlags := 0x411 }
/-- [I -/
def k12 : Class := { plain "[I" (some 0) with kind := .array 11 .int, interfaces := #[8, 4], accessFlags := 1041 }

def heap : Heap := #[{ cls := 7, slots := #[.null, .ref 1, .ref 2, .ref 3, .ref 4, .null, .null, .null, .null, .null, .null, .null, .null, .null, .null], vm := .statics 7 },
  { cls := 7, slots := #[.null, .int 1, .int 0, .null, .null, .long (-9223372036854775808), .long 9223372036854775807], vm := .none },
  { cls := 7, slots := #[.null, .int 2, .int 0, .null, .null, .long (-2147483648), .long 2147483647], vm := .none },
  { cls := 7, slots := #[.null, .int 3, .int 0, .null, .null, .long (-32768), .long 32767], vm := .none },
  { cls := 7, slots := #[.null, .int 4, .int 0, .null, .null, .long (-128), .long 127], vm := .none }]
def classes : Array Class := #[k0, k1, k2, k3, k4, k5, k6, k7, k8, k9, k10, k11, k12]
def interned : List (Array UInt16 × Addr) := []
def slotsUsed : Nat := 43
def theMethod : MethodId := ⟨1, 1⟩
def args0 : Array Value := #[.int 5, .long 77, .int 3]
def aboutOver (below : List Frame) : State where
  vm := { classes := classes, interned := interned.toArray }
  heap := heap
  slotsUsed := slotsUsed
  threads := #[{ frames := .invoking theMethod args0 :: below }]
def below0 : List Frame := [.native { method := ⟨0, 0⟩, args := #[] }]
def about1 : State := aboutOver below0
def p0 : Program := .bare "" "" ""
def e0 : Env := launch0.env 0 0 0
theorem w_frames : about1.frames = Frame.invoking theMethod args0 :: below0 := rfl
set_option maxRecDepth 65536 in
theorem w_args : argsFit about1.vm theMethod args0 = true := by decide +kernel
set_option maxRecDepth 65536 in
theorem w_heap : heapFits about1 = true := by decide +kernel
set_option maxRecDepth 65536 in
theorem w_runnable : about1.curStatus? = some .runnable := by decide +kernel
set_option maxRecDepth 65536 in
theorem w_alone : about1.alone = true := by decide +kernel
set_option maxRecDepth 65536 in
theorem w_named : about1.methodNamed? x = some theMethod := by decide +kernel
set_option maxRecDepth 65536 in
theorem w_hears : about1.hears theMethod below0 = true := by decide +kernel
set_option maxRecDepth 65536 in
theorem w_ripe : about1.ripe theMethod args0 below0 = true := by decide +kernel
theorem w_running : about1.status = .running := rfl
set_option maxRecDepth 65536 in
theorem w_room : about1.hasRoom e0.platform room_1 = true :=
  launch0.hasRoom_least _ room_1 (by decide +kernel) (by decide +kernel) (by decide +kernel) (by decide +kernel) (by decide +kernel) (by decide +kernel)
theorem allAtoms_all (ts : List Jvm.Cond) (a : Array Jvm.Value) (st : Jvm.State) : (allAtoms ts).before a st = ts.all (fun c => c.before a st) := by
  induction ts with
  | nil => rfl
  | cons c t ih =>
    show (Jvm.Cond.and c (allAtoms t)).before a st = _
    rw [Jvm.Cond.before_and, ih, List.all_cons]
def words1 : List Jvm.Cond := Jvm.Cond.code x code maxLocals ret :: tables_1
/-- a 'code' word, met by the world's own term for the bytes: nothing is compared byte by byte -/
theorem code_word {y : MethodName} {bytes : ByteArray} {mx : Nat} {rt : Option FieldType} {a : Array Value} {s : State} {m : MethodId} {meth : Method} {c : Code} (h1 : s.methodNamed? y = some m) (h2 : s.vm.method? m = some meth) (h3 : meth.code = some c) (h4 : c.code = bytes)
    (h5 : (c.maxLocals == mx && c.exceptionTable.isEmpty && decide (c.maxStack ≤ mostOperands) && decide (meth.sig.returnType = rt) && !meth.locks && decide (parseMethodDescriptor y.desc = some meth.sig)) = true) : (Jvm.Cond.code y bytes mx rt).before a s = true := by
  simp only [Bool.and_eq_true, beq_iff_eq, Bool.not_eq_true', decide_eq_true_eq] at h5
  obtain ⟨⟨⟨⟨⟨g1, g2⟩, g3⟩, g4⟩, g5⟩, g6⟩ := h5
  simp [Cond.before, Cond.holds, Cond.value, h1, h2, h3, h4, g1, g2, g3, g4, g5, g6]
def isCode : Jvm.Cond → Bool
  | .code _ _ _ _ => true
  | _ => false
theorem all_split {L : List Jvm.Cond} {P : Jvm.Cond → Bool} (h1 : L.all (fun c => isCode c || P c) = true) (h2 : ∀ c ∈ L.filter isCode, P c = true) : L.all P = true := by
  refine List.all_eq_true.mpr fun c hc => ?_
  have h := List.all_eq_true.mp h1 c hc
  rcases Bool.eq_false_or_eq_true (isCode c) with hi | hi
  · exact h2 c (List.mem_filter.mpr ⟨hc, hi⟩)
  · simpa [hi] using h
set_option maxRecDepth 65536 in
theorem w_c0 : (Jvm.Cond.code x code maxLocals ret).before args0 about1 = true := code_word (m := ⟨1, 1⟩) (meth := k1m1) (c := k1c1) (by decide +kernel) rfl rfl rfl (by decide +kernel)
set_option maxRecDepth 65536 in
theorem w_c1 : (Jvm.Cond.code ({ cls := "com/example/taulu/taulu/bind/ScalarHoldsPinLaw", name := "bound", desc := "(IZ)J" } : Jvm.MethodName) method_3_code (2 : Nat) (Option.some Jvm.ClassFile.FieldType.long)).before args0 about1 = true := code_word (m := ⟨1, 2⟩) (meth := k1m2) (c := k1c2) (by decide +kernel) rfl rfl rfl (by decide +kernel)
set_option maxRecDepth 65536 in
theorem w_c2 : (Jvm.Cond.code ({ cls := "com/example/taulu/taulu/bind/Scalar", name := "holds", desc := "(J)Z" } : Jvm.MethodName) prog_17_method_11_code (3 : Nat) (Option.some Jvm.ClassFile.FieldType.boolean)).before args0 about1 = true := code_word (m := ⟨7, 0⟩) (meth := k7m0) (c := k7c0) (by decide +kernel) rfl rfl rfl (by decide +kernel)
def codes1 : List Jvm.Cond := [Jvm.Cond.code x code maxLocals ret, Jvm.Cond.code ({ cls := "com/example/taulu/taulu/bind/ScalarHoldsPinLaw", name := "bound", desc := "(IZ)J" } : Jvm.MethodName) method_3_code (2 : Nat) (Option.some Jvm.ClassFile.FieldType.long), Jvm.Cond.code ({ cls := "com/example/taulu/taulu/bind/Scalar", name := "holds", desc := "(J)Z" } : Jvm.MethodName) prog_17_method_11_code (3 : Nat) (Option.some Jvm.ClassFile.FieldType.boolean)]
set_option maxRecDepth 65536 in
theorem codes_eq : words1.filter isCode = codes1 := rfl
theorem w_codes : ∀ c ∈ words1.filter isCode, c.before args0 about1 = true := by
  rw [codes_eq]
  intro c hc
  simp only [codes1, List.mem_cons, List.not_mem_nil, or_false] at hc
  rcases hc with rfl | rfl | rfl
  · exact w_c0
  · exact w_c1
  · exact w_c2
set_option maxRecDepth 65536 in
theorem w_t1 : (words1.take 24).all (fun c => isCode c || c.before args0 about1) = true := by decide +kernel
set_option maxRecDepth 65536 in
theorem w_t2 : (words1.drop 24).all (fun c => isCode c || c.before args0 about1) = true := by decide +kernel
theorem w_tables : (allAtoms (Jvm.Cond.code x code maxLocals ret :: tables_1)).before args0 about1 = true := by
  rw [allAtoms_all]
  show words1.all (fun c => c.before args0 about1) = true
  refine all_split ?_ w_codes
  rw [← List.take_append_drop 24 words1, List.all_append, w_t1, w_t2]
  rfl
set_option maxRecDepth 65536 in
theorem w_case : (Jvm.Cond.and given_1 narrow_1).before args0 about1 = true := by decide +kernel
theorem w_applies : (headSpec (Jvm.Cond.code x code maxLocals ret :: tables_1) room_1).applies x e0.platform about1 = true :=
  (Spec.applies_iff w_frames).mpr ⟨w_running, w_runnable, w_alone, w_named, w_hears, w_ripe, w_room, w_tables⟩
theorem atStart : AtStart classFile x code maxLocals ret World_1 tables_1 room_1 Calls_1 rest_1 Pre_1 launch0 p0 e0 about1 theMethod args0 below0 :=
  ⟨lists_1, trivial, launch0.admits_env _ _ _, launch0.least_env, fairChoices_fair.cas, fairChoices_fair.clock, w_frames, w_args, w_heap, w_applies, trivial, trivial, w_case⟩
end start1
theorem witness_1 : WitnessClaimed_1 := ⟨start1.p0, start1.e0, start1.about1, start1.theMethod, start1.args0, start1.below0, start1.atStart⟩
end Jvm.Pilot.@@N@@
