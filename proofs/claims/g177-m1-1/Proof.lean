import JvmDerived
import JvmDerived.Pilot.@@N@@Statement
import JvmDerived.Pilot.@@N@@Code
set_option linter.unusedVariables false
set_option linter.unusedSimpArgs false
namespace Jvm.RoadKit
open Sem ClassFile Op Lib Jvm.Stand Jvm.Free Jvm.LawKit
section New
variable {p : Program} {l : Launch} {e : Env} {R : Room} {s : State} {m : MethodId} {args : Array Value} {below : List Frame} {meth : Method} {c : Code} {T : State} {locs : List Loc} {cells slots : Nat}
theorem retI (X : Stand p l e R s m args below meth c T locs cells slots) (hx : p.tables.exec = Jvm.exec) {pc : Nat} {Ls : Array Slot} {z : Int32} {rest : List Value} (hret : meth.sig.returnType = some .int) (hd : decode c.code pc = .ok (.ireturn, 1)) {fs : List Frame}
    (hl : ∀ (f : JFrame) (acts : List Action), f.method = m → f.locked = none → f.entered = [] → (doReturn e (T.setTop f) acts (some (.int z))).1 = T.setFrames fs) : Steps p.tables e below (T.setTop (mkF m pc Ls (.int z :: rest))) (T.setFrames fs) := by
  have hm' : T.vm.method? m = some meth := X.method'
  have hn : narrow .int (.int z) = .int z := rfl
  show Steps p.tables e below (T.setTop { method := m, pc := pc, locals := Ls, stack := _ :: rest, locked := none }) _
  jvm_step X.here [X.here.top, hx, hd, hm', hret, hn]
  first | (intro acts; rw [hl _ acts rfl rfl rfl]) | rw [hl _ _ rfl rfl rfl]
  exact Steps.refl _
end New
end Jvm.RoadKit
namespace Jvm.Pilot.@@N@@
open Jvm Jvm.ClassFile Sem Op Lib Jvm.Free Jvm.Stand Jvm.LawKit Jvm.RoadKit Bundle Jvm.Pilot.@@N@@.Jvm.D
section OwnKit
/-- the rest of a body ends well: from the state U on it comes to its end, what it returns and leaves is as Q says -/
def Done (p : Program) (e : Env) (below : List Frame) (s : State) (Q : Option Value → Heap → List Loc → Prop) (C S : Nat) (U : State) : Prop :=
  ∃ s₂ o, Steps p.tables e below U s₂ ∧ s₂.status = .running ∧ Ended s₂ below o ∧ ∃ v L, o = .returned v ∧ Q v s₂.heap L ∧ FrameEnd s o s₂ L C S
variable {p : Program} {l : Launch} {e : Env} {R : Room} {s : State} {m : MethodId} {args : Array Value} {below : List Frame} {meth : Method} {c : Code} {T U U' : State} {locs : List Loc} {cells slots C S : Nat} {Q : Option Value → Heap → List Loc → Prop}
theorem Done.step (h : ∀ t, Steps p.tables e below U' t → Steps p.tables e below U t) (d : Done p e below s Q C S U') : Done p e below s Q C S U := by
  obtain ⟨s₂, o, h1, r⟩ := d
  exact ⟨s₂, o, h _ h1, r⟩
theorem Done.far (h : Steps p.tables e below U U') (d : Done p e below s Q C S U') : Done p e below s Q C S U := by
  obtain ⟨s₂, o, h1, r⟩ := d
  exact ⟨s₂, o, h.trans h1, r⟩
theorem Done.mono {Q' : Option Value → Heap → List Loc → Prop} (d : Done p e below s Q C S U) (h : ∀ v h L, Q v h L → Q' v h L) : Done p e below s Q' C S U := by
  obtain ⟨s₂, o, h1, h2, h3, v, L, h4, h5, h6⟩ := d
  exact ⟨s₂, o, h1, h2, h3, v, L, h4, h _ _ _ h5, h6⟩
theorem Done.int (X : Stand p l e R s m args below meth c T locs cells slots) (hx : p.tables.exec = Jvm.exec) (hlk : meth.locks = false) (hret : meth.sig.returnType = some .int) {pc : Nat} {Ls : Array Slot} {z : Int32} {rest : List Value} (hd : decode c.code pc = .ok (.ireturn, 1)) (hc : cells ≤ C) (hs : slots ≤ S)
    (hq : Q (some (.int z)) T.heap locs) : Done p e below s Q C S (T.setTop (mkF m pc Ls (.int z :: rest))) := by
  obtain ⟨fs, hr, hrun, hended, hW, hsame⟩ := X.leave (v := some (.int z)) (fun h => by rw [hret] at h; cases h)
  exact ⟨_, _, retI X hx hret hd hr, hrun, hended, _, _, rfl, hq, ⟨_, rfl⟩, hW, hsame.mono hc hs⟩
theorem Done.narr (X : Stand p l e R s m args below meth c T locs cells slots) (hx : p.tables.exec = Jvm.exec) (hlk : meth.locks = false) {t : FieldType} (hret : meth.sig.returnType = some t) (ht : t = .boolean ∨ t = .byte ∨ t = .char ∨ t = .short) {pc : Nat} {Ls : Array Slot} {z : Int32} {rest : List Value} (hd : decode c.code pc = .ok (.ireturn, 1)) (hc : cells ≤ C) (hs : slots ≤ S)
    (hq : Q (some (.int (nar t z))) T.heap locs) : Done p e below s Q C S (T.setTop (mkF m pc Ls (.int z :: rest))) := by
  obtain ⟨fs, hr, hrun, hended, hW, hsame⟩ := X.leave (v := some (.int (nar t z))) (fun h => by rw [hret] at h; cases h)
  exact ⟨_, _, retN X hx hret ht hd hr, hrun, hended, _, _, rfl, hq, ⟨_, rfl⟩, hW, hsame.mono hc hs⟩
theorem Done.long (X : Stand p l e R s m args below meth c T locs cells slots) (hx : p.tables.exec = Jvm.exec) (hlk : meth.locks = false) (hret : meth.sig.returnType = some .long) {pc : Nat} {Ls : Array Slot} {z : Int64} {rest : List Value} (hd : decode c.code pc = .ok (.lreturn, 1)) (hc : cells ≤ C) (hs : slots ≤ S)
    (hq : Q (some (.long z)) T.heap locs) : Done p e below s Q C S (T.setTop (mkF m pc Ls (.long z :: rest))) := by
  obtain ⟨fs, hr, hrun, hended, hW, hsame⟩ := X.leave (v := some (.long z)) (fun h => by rw [hret] at h; cases h)
  exact ⟨_, _, retOut X hx hret rfl (Or.inr (Or.inl ⟨rfl, rfl, z, rfl⟩)) hd hr, hrun, hended, _, _, rfl, hq, ⟨_, rfl⟩, hW, hsame.mono hc hs⟩
theorem Done.ref (X : Stand p l e R s m args below meth c T locs cells slots) (hx : p.tables.exec = Jvm.exec) (hlk : meth.locks = false) {t : FieldType} (hret : meth.sig.returnType = some t) (ht : t.isReference = true) {pc : Nat} {Ls : Array Slot} {w : Value} {rest : List Value} (hw : w.isRef = true) (hn : narrow t w = w) (hd : decode c.code pc = .ok (.areturn, 1)) (hc : cells ≤ C) (hs : slots ≤ S)
    (hq : Q (some w) T.heap locs) : Done p e below s Q C S (T.setTop (mkF m pc Ls (w :: rest))) := by
  obtain ⟨fs, hr, hrun, hended, hW, hsame⟩ := X.leave (v := some w) (fun h => by rw [hret] at h; cases h)
  exact ⟨_, _, retOut X hx hret hn (Or.inr (Or.inr (Or.inr (Or.inr ⟨rfl, ht, hw⟩)))) hd hr, hrun, hended, _, _, rfl, hq, ⟨_, rfl⟩, hW, hsame.mono hc hs⟩
theorem Done.void (X : Stand p l e R s m args below meth c T locs cells slots) (hx : p.tables.exec = Jvm.exec) (hlk : meth.locks = false) (hret : meth.sig.returnType = none) {pc : Nat} {Ls : Array Slot} (hd : decode c.code pc = .ok (.return_, 1)) (hc : cells ≤ C) (hs : slots ≤ S)
    (hq : Q none T.heap locs) : Done p e below s Q C S (T.setTop (mkF m pc Ls [])) := by
  obtain ⟨fs, hr, hrun, hended, hW, hsame⟩ := X.leave (v := none) (fun _ => rfl)
  exact ⟨_, _, X.returnOut hx hret hd hr, hrun, hended, _, _, rfl, hq, ⟨_, rfl⟩, hW, hsame.mono hc hs⟩
variable {Z : State} {h h' h0 : Heap} {a b : Addr} {ty : FieldType} {vs : List Value} {sl : Nat} {v x : Value} {ws : List Addr} {j : Int32} {g : JFrame} {rest : List Value}
/-- an array whose slots are just the list vs -/
def Ax (Z : State) (h : Heap) (a : Addr) (ty : FieldType) (vs : List Value) : Prop := ∃ c : Cell, Arr Z h a c ty ∧ c.slots = vs.toArray
theorem Ax.lt (F : Ax Z h a ty vs) : a < h.size := by obtain ⟨c, A, -⟩ := F; exact A.lt
theorem Ax.ext (F : Ax Z h a ty vs) (E : Ext h h') : Ax Z h' a ty vs := by obtain ⟨c, A, r⟩ := F; exact ⟨c, A.ext E, r⟩
theorem Ax.other (F : Ax Z h b ty vs) (W : Wr h h' a sl v) (q : b ≠ a) : Ax Z h' b ty vs := by obtain ⟨c, A, r⟩ := F; exact ⟨c, A.other W q, r⟩
theorem Ax.keep (F : Ax Z h a ty vs) (K : Keep h h' ws) (q : a ∉ ws) : Ax Z h' a ty vs := by obtain ⟨c, A, r⟩ := F; exact ⟨c, ⟨K.2.1 a c A.1 q, A.2⟩, r⟩
theorem own_stakeep {C n d : String} (F : Sta Z h C n d v) (K : Keep h h' ws) (q : ∀ y ∈ ws, ∃ cell : Cell, h[y]? = some cell ∧ cell.vm.isStatics = false) : Sta Z h' C n d v := by
  obtain ⟨cf, i, k, f, st, cell, h1, h2, h3, h4, h5, h6, h7⟩ := F
  refine ⟨cf, i, k, f, st, cell, h1, h2, h3, h4, K.2.1 st cell h5 (fun z => ?_), h6, h7⟩
  obtain ⟨c', g1, g2⟩ := q st z
  cases h5.symm.trans g1; rw [g2] at h6; cases h6
theorem own_unst {C : String} (F : Exa Z h a C) : ∃ cell : Cell, h[a]? = some cell ∧ cell.vm.isStatics = false := by
  obtain ⟨cell, k, h1, -, -, h4, -⟩ := F; exact ⟨cell, h1, h4⟩
theorem fld_long {t : Term} {D n d : String} {k : Int64} {y : Addr} {av : Array Value} (hh : (Jvm.Cond.eq (Term.field t D n d) (Term.long k)).value av Z none Z [] = some true) (ht : t.eval av Z none [] Z = some (.ref y)) : Fld Z Z.heap y D n d (.long k) := by
  obtain ⟨u, w, e1, e2, k1, k2⟩ := cmp_v (Or.inl hh)
  have e3 : (Term.long k).eval av Z none [] Z = some (.long k) := rfl
  rw [e3] at e2; cases e2
  obtain ⟨z, rfl⟩ := k2
  have q := gotT (eq_L e1 e3) hh
  subst q
  rw [fld_at ht] at e1
  exact Fld.start e1
theorem fld_int {t : Term} {D n d : String} {k : Int32} {y : Addr} {av : Array Value} (hh : (Jvm.Cond.eq (Term.field t D n d) (Term.int k)).value av Z none Z [] = some true) (ht : t.eval av Z none [] Z = some (.ref y)) : Fld Z Z.heap y D n d (.int k) := by
  obtain ⟨u, w, e1, e2, k1, k2⟩ := cmp_v (Or.inl hh)
  have e3 : (Term.int k).eval av Z none [] Z = some (.int k) := rfl
  rw [e3] at e2; cases e2
  obtain ⟨z, rfl⟩ := k2
  have q : z = k := by simpa [Jvm.Cond.value, e1, e3] using hh
  subst q
  rw [fld_at ht] at e1
  exact Fld.start e1
theorem Ax.set (F : Ax Z h a ty vs) (W : Wr h h' a sl v) : Ax Z h' a ty (vs.set sl v) := by
  obtain ⟨c, A, r⟩ := F
  exact ⟨_, A.same W, by rw [show (c.setSlot sl v).slots = c.slots.setIfInBounds sl v from rfl, r, List.setIfInBounds_toArray]⟩
theorem Ax.new {k : ClassId} {n : Int32} {i : Nat} (A : Arr Z h a (newA k ty n) ty) (hi : n.toNatClampNeg = i) : Ax Z h a ty (List.replicate i (defaultValue ty)) :=
  ⟨_, A, by rw [show (newA k ty n).slots = Array.replicate n.toNatClampNeg (defaultValue ty) from rfl, hi, List.toArray_replicate]⟩
theorem Ax.size {c : Cell} (r : c.slots = vs.toArray) : c.slots.size = vs.length := by rw [r, List.size_toArray]
theorem Ax.inb {c : Cell} (r : c.slots = vs.toArray) (hj : ¬ j < 0) (hl : j.toNatClampNeg < vs.length) : ¬ (j < 0 ∨ c.slots.size ≤ j.toNatClampNeg) := fun q => q.elim hj fun u => by
  rw [Ax.size r] at u; exact absurd hl (Nat.not_lt.mpr u)
theorem Ax.get {c : Cell} (r : c.slots = vs.toArray) (hat : vs[j.toNatClampNeg]? = some x) : c.slots[j.toNatClampNeg]? = some x := by rw [r, List.getElem?_toArray]; exact hat
theorem Ax.lens (hat : vs[j.toNatClampNeg]? = some x) : j.toNatClampNeg < vs.length := (List.getElem?_eq_some_iff.mp hat).1
theorem ldI (X : Stand p l e R s m args below meth c T locs cells slots) (hx : p.tables.exec = Jvm.exec) (hZ : Z.Warmed39 s.vm) (eT : T.heap = h) (F : Ax Z h a .int vs) (hj : ¬ j < 0) (hat : vs[j.toNatClampNeg]? = some x) (hg : g.method = m) (hs : g.stack = .int j :: .ref a :: rest) (hd : decode c.code g.pc = .ok (.iaload, 1)) :
    ∀ target, Steps p.tables e below (T.setTop { g with pc := g.pc + 1, stack := x :: rest }) target → Steps p.tables e below (T.setTop g) target := by
  obtain ⟨cl, A, r⟩ := F
  exact X.iaload hx (by rw [eT]; exact A.1) (State.isArrayOf_alike hZ.alike A.2.1) A.2.2 (Ax.inb r hj (Ax.lens hat)) (Ax.get r hat) hg hs hd
theorem ldJ (X : Stand p l e R s m args below meth c T locs cells slots) (hx : p.tables.exec = Jvm.exec) (hZ : Z.Warmed39 s.vm) (eT : T.heap = h) (F : Ax Z h a .long vs) (hj : ¬ j < 0) (hat : vs[j.toNatClampNeg]? = some x) (hg : g.method = m) (hs : g.stack = .int j :: .ref a :: rest) (hd : decode c.code g.pc = .ok (.laload, 1)) :
    ∀ target, Steps p.tables e below (T.setTop { g with pc := g.pc + 1, stack := x :: rest }) target → Steps p.tables e below (T.setTop g) target := by
  obtain ⟨cl, A, r⟩ := F
  exact X.laload hx (by rw [eT]; exact A.1) (State.isArrayOf_alike hZ.alike A.2.1) A.2.2 (Ax.inb r hj (Ax.lens hat)) (Ax.get r hat) hg hs hd
theorem ldB (X : Stand p l e R s m args below meth c T locs cells slots) (hx : p.tables.exec = Jvm.exec) (hZ : Z.Warmed39 s.vm) (eT : T.heap = h) (F : Ax Z h a .byte vs) (hj : ¬ j < 0) (hat : vs[j.toNatClampNeg]? = some x) (hg : g.method = m) (hs : g.stack = .int j :: .ref a :: rest) (hd : decode c.code g.pc = .ok (.baload, 1)) :
    ∀ target, Steps p.tables e below (T.setTop { g with pc := g.pc + 1, stack := x :: rest }) target → Steps p.tables e below (T.setTop g) target := by
  obtain ⟨cl, A, r⟩ := F
  exact X.baloadBytes hx (by rw [eT]; exact A.1) (State.isArrayOf_alike hZ.alike A.2.1) A.2.2 (Ax.inb r hj (Ax.lens hat)) (Ax.get r hat) hg hs hd
theorem ldZ (X : Stand p l e R s m args below meth c T locs cells slots) (hx : p.tables.exec = Jvm.exec) (hZ : Z.Warmed39 s.vm) (eT : T.heap = h) (F : Ax Z h a .boolean vs) (hj : ¬ j < 0) (hat : vs[j.toNatClampNeg]? = some x) (hg : g.method = m) (hs : g.stack = .int j :: .ref a :: rest) (hd : decode c.code g.pc = .ok (.baload, 1)) :
    ∀ target, Steps p.tables e below (T.setTop { g with pc := g.pc + 1, stack := x :: rest }) target → Steps p.tables e below (T.setTop g) target := by
  obtain ⟨cl, A, r⟩ := F
  exact X.baloadBooleans hx (by rw [eT]; exact A.1) (State.isArrayOf_alike hZ.alike A.2.1) A.2.2 (Ax.inb r hj (Ax.lens hat)) (Ax.get r hat) hg hs hd
theorem lenA (X : Stand p l e R s m args below meth c T locs cells slots) (hx : p.tables.exec = Jvm.exec) (hZ : Z.Warmed39 s.vm) (eT : T.heap = h) (F : Ax Z h a ty vs) {n : Int32} (hn : vs.length.toInt32 = n) (hg : g.method = m) (hs : g.stack = .ref a :: rest) (hd : decode c.code g.pc = .ok (.arraylength, 1)) :
    ∀ target, Steps p.tables e below (T.setTop { g with pc := g.pc + 1, stack := .int n :: rest }) target → Steps p.tables e below (T.setTop g) target := by
  obtain ⟨cl, A, r⟩ := F
  intro target k
  refine X.arraylength hx (by rw [eT]; exact A.1) (State.isArrayOf_alike hZ.alike A.2.1) hg hs hd target ?_
  rw [Ax.size r, hn]; exact k
theorem stoI (X : Stand p l e R s m args below meth c T locs cells slots) (hx : p.tables.exec = Jvm.exec) (hZ : Z.Warmed39 s.vm) (eT : T.heap = h) (F : Ax Z h a .int vs) {y : Int32} (hj : ¬ j < 0) {i : Nat} (hi : j.toNatClampNeg = i) (hl : i < vs.length) (hg : g.method = m) (hs : g.stack = .int y :: .int j :: .ref a :: rest) (hd : decode c.code g.pc = .ok (.iastore, 1)) :
    ∃ T' h', Stand p l e R s m args below meth c T' (locs ++ [⟨a, j.toNatClampNeg⟩]) cells slots ∧ T'.heap = h' ∧ Wr h h' a j.toNatClampNeg (.int y) ∧ Ax Z h' a .int (vs.set i (.int y)) ∧ ∀ target, Steps p.tables e below (T'.setTop { g with pc := g.pc + 1, stack := rest }) target → Steps p.tables e below (T.setTop g) target := by
  obtain ⟨cl, A, r⟩ := F
  obtain ⟨T', h', X', e', W, st⟩ := stI X hx hZ eT A (Ax.inb r hj (by rw [hi]; exact hl)) hg hs hd
  exact ⟨T', h', X', e', W, hi ▸ Ax.set ⟨cl, A, r⟩ W, st⟩
theorem stoJ (X : Stand p l e R s m args below meth c T locs cells slots) (hx : p.tables.exec = Jvm.exec) (hZ : Z.Warmed39 s.vm) (eT : T.heap = h) (F : Ax Z h a .long vs) {y : Int64} (hj : ¬ j < 0) {i : Nat} (hi : j.toNatClampNeg = i) (hl : i < vs.length) (hg : g.method = m) (hs : g.stack = .long y :: .int j :: .ref a :: rest) (hd : decode c.code g.pc = .ok (.lastore, 1)) :
    ∃ T' h', Stand p l e R s m args below meth c T' (locs ++ [⟨a, j.toNatClampNeg⟩]) cells slots ∧ T'.heap = h' ∧ Wr h h' a j.toNatClampNeg (.long y) ∧ Ax Z h' a .long (vs.set i (.long y)) ∧ ∀ target, Steps p.tables e below (T'.setTop { g with pc := g.pc + 1, stack := rest }) target → Steps p.tables e below (T.setTop g) target := by
  obtain ⟨cl, A, r⟩ := F
  obtain ⟨T', h', X', e', W, st⟩ := stJ X hx hZ eT A (Ax.inb r hj (by rw [hi]; exact hl)) hg hs hd
  exact ⟨T', h', X', e', W, hi ▸ Ax.set ⟨cl, A, r⟩ W, st⟩
theorem stoB (X : Stand p l e R s m args below meth c T locs cells slots) (hx : p.tables.exec = Jvm.exec) (hZ : Z.Warmed39 s.vm) (eT : T.heap = h) (F : Ax Z h a .byte vs) {y : Int32} (hj : ¬ j < 0) {i : Nat} (hi : j.toNatClampNeg = i) (hl : i < vs.length) (hg : g.method = m) (hs : g.stack = .int y :: .int j :: .ref a :: rest) (hd : decode c.code g.pc = .ok (.bastore, 1)) :
    ∃ T' h', Stand p l e R s m args below meth c T' (locs ++ [⟨a, j.toNatClampNeg⟩]) cells slots ∧ T'.heap = h' ∧ Wr h h' a j.toNatClampNeg (.int (nar .byte y)) ∧ Ax Z h' a .byte (vs.set i (.int (nar .byte y))) ∧ ∀ target, Steps p.tables e below (T'.setTop { g with pc := g.pc + 1, stack := rest }) target → Steps p.tables e below (T.setTop g) target := by
  obtain ⟨cl, A, r⟩ := F
  obtain ⟨T', h', X', e', W, st⟩ := stB X hx hZ eT A (Ax.inb r hj (by rw [hi]; exact hl)) hg hs hd
  exact ⟨T', h', X', e', W, hi ▸ Ax.set ⟨cl, A, r⟩ W, st⟩
theorem stoZ (X : Stand p l e R s m args below meth c T locs cells slots) (hx : p.tables.exec = Jvm.exec) (hZ : Z.Warmed39 s.vm) (eT : T.heap = h) (F : Ax Z h a .boolean vs) {y : Int32} (hj : ¬ j < 0) {i : Nat} (hi : j.toNatClampNeg = i) (hl : i < vs.length) (hg : g.method = m) (hs : g.stack = .int y :: .int j :: .ref a :: rest) (hd : decode c.code g.pc = .ok (.bastore, 1)) :
    ∃ T' h', Stand p l e R s m args below meth c T' (locs ++ [⟨a, j.toNatClampNeg⟩]) cells slots ∧ T'.heap = h' ∧ Wr h h' a j.toNatClampNeg (.int (nar .boolean y)) ∧ Ax Z h' a .boolean (vs.set i (.int (nar .boolean y))) ∧ ∀ target, Steps p.tables e below (T'.setTop { g with pc := g.pc + 1, stack := rest }) target → Steps p.tables e below (T.setTop g) target := by
  obtain ⟨cl, A, r⟩ := F
  obtain ⟨T', h', X', e', W, st⟩ := stZ X hx hZ eT A (Ax.inb r hj (by rw [hi]; exact hl)) hg hs hd
  exact ⟨T', h', X', e', W, hi ▸ Ax.set ⟨cl, A, r⟩ W, st⟩
theorem cloX (X : Stand p l e R s m args below meth c T locs cells slots) (hx : p.tables.exec = Jvm.exec) (hZ : Z.Warmed39 s.vm) {a0 : Array Value} {own ad : String} {index : Nat} (hown : s.vm.findClass own = some m.cls)
    (w1 : (Cond.methodLink own index ⟨ad, "clone", "()Ljava/lang/Object;"⟩).before a0 Z = true) (w2 : (Cond.sameMethod ad "java/lang/Object" "clone" "()Ljava/lang/Object;").before a0 Z = true) (w3 : (Cond.native ⟨"java/lang/Object", "clone", "()Ljava/lang/Object;"⟩).before a0 Z = true)
    (w4 : (Cond.instanceMethod ⟨"java/lang/Object", "clone", "()Ljava/lang/Object;"⟩).before a0 Z = true) (w5 : (Cond.selects ad ⟨ad, "clone", "()Ljava/lang/Object;"⟩ ⟨"java/lang/Object", "clone", "()Ljava/lang/Object;"⟩).before a0 Z = true) (w6 : (Cond.castable ad "java/lang/Cloneable").before a0 Z = true)
    (eT : T.heap = h) (F : Ax Z h a ty vs) (E : Exa Z h a ad) (G : ∀ v ∈ vs, fits ty v = true) (hg : g.method = m) (hsize : g.locals.size = c.maxLocals) (hs : g.stack = .ref a :: rest) (hd : decode c.code g.pc = .ok (.invokevirtual index, 3))
    (hf : 1 ≤ R.frames) {W cap : Nat} (hW : 2 * g.monitorRoom + (rest.map fun v => v.category).sum ≤ W) (hl : W + 14 ≤ R.locals) (hcap : vs.length ≤ cap) (hc : cells + 1 ≤ R.cells) (hsl : slots + cap ≤ R.slots) :
    ∃ T' h', Stand p l e R s m args below meth c T' locs (cells + 1) (slots + cap) ∧ T'.heap = h' ∧ Ext h h' ∧ Ax Z h' h.size ty vs ∧ Exa Z h' h.size ad ∧
      ∀ target, Steps p.tables e below (T'.setTop { g with pc := g.pc + 3, stack := .ref h.size :: rest }) target → Steps p.tables e below (T.setTop g) target := by
  obtain ⟨cl, A, r⟩ := F
  have FC : FitC Z cl := fitC_of A fun i hi v hv => by
    rw [r, List.getElem?_toArray] at hv
    exact G v (List.mem_of_getElem? hv)
  obtain ⟨T', h', X', e', ex, A', E', st⟩ := cloneA X hx hZ hown w1 w2 w3 w4 w5 w6 eT A E FC hg hsize hs hd hf hW hl (by rw [Ax.size r]; exact hcap) hc hsl
  exact ⟨T', h', X', e', ex, ⟨cloneOf cl, A', r⟩, E', st⟩
end OwnKit
theorem pd_0 : parseMethodDescriptor "()V" = some ⟨[], none⟩ := by decide +kernel
theorem pd_1 : parseMethodDescriptor "([J[J)V" = some ⟨[(.array .long), (.array .long)], none⟩ := by decide +kernel
theorem pd_2 : parseMethodDescriptor "()J" = some ⟨[], some .long⟩ := by decide +kernel
theorem d5_0 : decode jdk_22_method_1_code 0 = .ok (.aload_n 0, 1) := by decide +kernel
theorem d5_1 : decode jdk_22_method_1_code 1 = .ok (.invokespecial 1, 3) := by decide +kernel
theorem d5_4 : decode jdk_22_method_1_code 4 = .ok (.return_, 1) := by decide +kernel
theorem pn_5 : plainName "java/util/AbstractCollection" = true := by first | (simp [plainName, overriddenIn]; done) | decide +kernel
theorem ef_5 (m : MethodId) (a1 : Addr) : entryFrame m #[(.ref a1)] 1 = mkF m 0 #[.val (.ref a1)] [] := by first | (simp [entryFrame, mkF, argsToLocals, Value.category]; done) | rfl
def Qrm5 (Z : State) (a1 : Addr) (h0 : Heap) (n0 : Nat) : Option Value → Heap → List Loc → Prop := fun v h L => v = none ∧ Fr n0 L ∧ h = h0
set_option maxRecDepth 65536 in
set_option maxHeartbeats 40000000 in
theorem rm5 (l : Launch) (Z : State) (a0 : Array Value) (hw : ∀ d ∈ tables_1, d.before a0 Z = true) (ws : List Jvm.Cond) (a1 : Addr) (h0 : Heap) (n0 : Nat) (Z0 : n0 ≤ h0.size) :
    MetFree l (⟨"java/util/AbstractCollection", "<init>", "()V"⟩ : MethodName) (head1 (Jvm.Cond.code (⟨"java/util/AbstractCollection", "<init>", "()V"⟩ : MethodName) jdk_22_method_1_code 1 none :: ws) ({ frames := 1, cells := 0, slots := 0, locals := 12 } : Room)) (fun a U => a = #[(.ref a1)] ∧ Z.Warmed39 U.vm ∧ U.heap = h0) (fun _ _ _ _ _ => True) (fun _ U o U' => ∃ v L, o = .returned v ∧ Qrm5 Z a1 h0 n0 v U'.heap L ∧ FrameEnd U o U' L ({ frames := 1, cells := 0, slots := 0, locals := 12 } : Room).cells ({ frames := 1, cells := 0, slots := 0, locals := 12 } : Room).slots) := by
  refine MetFree.of_bodySF (plainFor_of_name pn_5) hisR ?_
  intro p e s m args below meth c s₁ Bd hml0 hP hK
  obtain ⟨rfl, hZ, hh⟩ := hP
  have hx := Bd.exec
  have hby := Bd.bytes
  have hml : c.maxLocals = 1 := hml0
  have hown : s.vm.findClass "java/util/AbstractCollection" = some m.cls := findClass_of_methodNamed Bd.named
  have hnm := (name_of_methodNamed Bd.named Bd.method).1
  have hlk : meth.locks = false := BodyLoose.notSynchronized Bd
  have hret := Bd.returns
  have X0 : Stand p l e ({ frames := 1, cells := 0, slots := 0, locals := 12 } : Room) s m #[(.ref a1)] below meth c s₁ [] 0 0 := Stand.of_body Bd
  have e0 : s₁.heap = h0 := by rw [← hh, Bd.state]; rfl
  have N0 := Fr.nil n0
  show Done p e below s (Qrm5 Z a1 h0 n0) ({ frames := 1, cells := 0, slots := 0, locals := 12 } : Room).cells ({ frames := 1, cells := 0, slots := 0, locals := 12 } : Room).slots (s₁.setTop (entryFrame m #[(.ref a1)] 1))
  refine Done.step (fun t k => castTop (ef_5 m a1) k) ?_
  show Done p e below s _ _ _ (s₁.setTop (mkF m 0 #[.val (.ref a1)] []))
  refine Done.step (fun t k => XS.aloadN X0.here hx rfl (hb hby d5_0) rfl rfl k) ?_
  show Done p e below s _ _ _ (s₁.setTop (mkF m 1 #[.val (.ref a1)] [(.ref a1)]))
  obtain ⟨T101, X101, e101, st101⟩ := initO X0 hx hZ hown (hw _ (List.mem_of_getElem? (i := 29) rfl)) (hw _ (List.mem_of_getElem? (i := 9) rfl)) (hw _ (List.mem_of_getElem? (i := 10) rfl)) e0 (g := (mkF m 1 #[.val (.ref a1)] [(.ref a1)])) rfl (by rw [hml]; rfl) rfl (hb hby d5_1) (by decide) (W := 0) (by show 2 * 0 + _ ≤ _; exact Nat.le_of_eq rfl) (by decide)
  refine Done.step st101 ?_
  show Done p e below s _ _ _ (T101.setTop (mkF m 4 #[.val (.ref a1)] []))
  exact Done.void X101 hx hlk hret (hb hby d5_4) (by decide) (by decide) ⟨rfl, N0, e101⟩
theorem d7_0 : decode jdk_71_method_1_code 0 = .ok (.aload_n 0, 1) := by decide +kernel
theorem d7_1 : decode jdk_71_method_1_code 1 = .ok (.invokespecial 1, 3) := by decide +kernel
theorem d7_4 : decode jdk_71_method_1_code 4 = .ok (.return_, 1) := by decide +kernel
theorem pn_7 : plainName "java/util/AbstractMap" = true := by first | (simp [plainName, overriddenIn]; done) | decide +kernel
theorem ef_7 (m : MethodId) (a1 : Addr) : entryFrame m #[(.ref a1)] 1 = mkF m 0 #[.val (.ref a1)] [] := by first | (simp [entryFrame, mkF, argsToLocals, Value.category]; done) | rfl
def Qrm7 (Z : State) (a1 : Addr) (h0 : Heap) (n0 : Nat) : Option Value → Heap → List Loc → Prop := fun v h L => v = none ∧ Fr n0 L ∧ h = h0
set_option maxRecDepth 65536 in
set_option maxHeartbeats 40000000 in
theorem rm7 (l : Launch) (Z : State) (a0 : Array Value) (hw : ∀ d ∈ tables_1, d.before a0 Z = true) (ws : List Jvm.Cond) (a1 : Addr) (h0 : Heap) (n0 : Nat) (Z0 : n0 ≤ h0.size) :
    MetFree l (⟨"java/util/AbstractMap", "<init>", "()V"⟩ : MethodName) (head1 (Jvm.Cond.code (⟨"java/util/AbstractMap", "<init>", "()V"⟩ : MethodName) jdk_71_method_1_code 1 none :: ws) ({ frames := 1, cells := 0, slots := 0, locals := 12 } : Room)) (fun a U => a = #[(.ref a1)] ∧ Z.Warmed39 U.vm ∧ U.heap = h0) (fun _ _ _ _ _ => True) (fun _ U o U' => ∃ v L, o = .returned v ∧ Qrm7 Z a1 h0 n0 v U'.heap L ∧ FrameEnd U o U' L ({ frames := 1, cells := 0, slots := 0, locals := 12 } : Room).cells ({ frames := 1, cells := 0, slots := 0, locals := 12 } : Room).slots) := by
  refine MetFree.of_bodySF (plainFor_of_name pn_7) hisR ?_
  intro p e s m args below meth c s₁ Bd hml0 hP hK
  obtain ⟨rfl, hZ, hh⟩ := hP
  have hx := Bd.exec
  have hby := Bd.bytes
  have hml : c.maxLocals = 1 := hml0
  have hown : s.vm.findClass "java/util/AbstractMap" = some m.cls := findClass_of_methodNamed Bd.named
  have hnm := (name_of_methodNamed Bd.named Bd.method).1
  have hlk : meth.locks = false := BodyLoose.notSynchronized Bd
  have hret := Bd.returns
  have X0 : Stand p l e ({ frames := 1, cells := 0, slots := 0, locals := 12 } : Room) s m #[(.ref a1)] below meth c s₁ [] 0 0 := Stand.of_body Bd
  have e0 : s₁.heap = h0 := by rw [← hh, Bd.state]; rfl
  have N0 := Fr.nil n0
  show Done p e below s (Qrm7 Z a1 h0 n0) ({ frames := 1, cells := 0, slots := 0, locals := 12 } : Room).cells ({ frames := 1, cells := 0, slots := 0, locals := 12 } : Room).slots (s₁.setTop (entryFrame m #[(.ref a1)] 1))
  refine Done.step (fun t k => castTop (ef_7 m a1) k) ?_
  show Done p e below s _ _ _ (s₁.setTop (mkF m 0 #[.val (.ref a1)] []))
  refine Done.step (fun t k => XS.aloadN X0.here hx rfl (hb hby d7_0) rfl rfl k) ?_
  show Done p e below s _ _ _ (s₁.setTop (mkF m 1 #[.val (.ref a1)] [(.ref a1)]))
  obtain ⟨T101, X101, e101, st101⟩ := initO X0 hx hZ hown (hw _ (List.mem_of_getElem? (i := 53) rfl)) (hw _ (List.mem_of_getElem? (i := 9) rfl)) (hw _ (List.mem_of_getElem? (i := 10) rfl)) e0 (g := (mkF m 1 #[.val (.ref a1)] [(.ref a1)])) rfl (by rw [hml]; rfl) rfl (hb hby d7_1) (by decide) (W := 0) (by show 2 * 0 + _ ≤ _; exact Nat.le_of_eq rfl) (by decide)
  refine Done.step st101 ?_
  show Done p e below s _ _ _ (T101.setTop (mkF m 4 #[.val (.ref a1)] []))
  exact Done.void X101 hx hlk hret (hb hby d7_4) (by decide) (by decide) ⟨rfl, N0, e101⟩
theorem d4_0 : decode jdk_39_method_1_code 0 = .ok (.aload_n 0, 1) := by decide +kernel
theorem d4_1 : decode jdk_39_method_1_code 1 = .ok (.invokespecial 1, 3) := by decide +kernel
theorem d4_4 : decode jdk_39_method_1_code 4 = .ok (.aload_n 0, 1) := by decide +kernel
theorem d4_5 : decode jdk_39_method_1_code 5 = .ok (.iconst 0, 1) := by decide +kernel
theorem d4_6 : decode jdk_39_method_1_code 6 = .ok (.putfield 7, 3) := by decide +kernel
theorem d4_9 : decode jdk_39_method_1_code 9 = .ok (.return_, 1) := by decide +kernel
theorem pn_4 : plainName "java/util/AbstractList" = true := by first | (simp [plainName, overriddenIn]; done) | decide +kernel
theorem ef_4 (m : MethodId) (a1 : Addr) : entryFrame m #[(.ref a1)] 1 = mkF m 0 #[.val (.ref a1)] [] := by first | (simp [entryFrame, mkF, argsToLocals, Value.category]; done) | rfl
def Qrm4 (Z : State) (a1 : Addr) (h0 : Heap) (n0 : Nat) : Option Value → Heap → List Loc → Prop := fun v h L => v = none ∧ Fr n0 L ∧ Keep h0 h [a1] ∧ Exa Z h a1 "java/util/ArrayList" ∧ Fld Z h a1 "java/util/AbstractList" "modCount" "I" (.int (0 : Int32)) ∧ Fld Z h a1 "java/util/ArrayList" "elementData" "[Ljava/lang/Object;" .null
set_option maxRecDepth 65536 in
set_option maxHeartbeats 40000000 in
theorem rm4 (l : Launch) (Z : State) (a0 : Array Value) (hw : ∀ d ∈ tables_1, d.before a0 Z = true) (ws : List Jvm.Cond) (a1 : Addr) (h0 : Heap) (n0 : Nat) (Z0 : n0 ≤ h0.size) (E1 : Exa Z h0 a1 "java/util/ArrayList") (F_modCount : Fld Z h0 a1 "java/util/AbstractList" "modCount" "I" (.int (0 : Int32))) (F_elementData : Fld Z h0 a1 "java/util/ArrayList" "elementData" "[Ljava/lang/Object;" .null) (g1 : n0 ≤ a1) :
    MetFree l (⟨"java/util/AbstractList", "<init>", "()V"⟩ : MethodName) (head1 (Jvm.Cond.code (⟨"java/util/AbstractList", "<init>", "()V"⟩ : MethodName) jdk_39_method_1_code 1 none :: ws) ({ frames := 2, cells := 0, slots := 0, locals := 24 } : Room)) (fun a U => a = #[(.ref a1)] ∧ Z.Warmed39 U.vm ∧ U.heap = h0) (fun _ _ _ _ _ => True) (fun _ U o U' => ∃ v L, o = .returned v ∧ Qrm4 Z a1 h0 n0 v U'.heap L ∧ FrameEnd U o U' L ({ frames := 2, cells := 0, slots := 0, locals := 24 } : Room).cells ({ frames := 2, cells := 0, slots := 0, locals := 24 } : Room).slots) := by
  refine MetFree.of_bodySF (plainFor_of_name pn_4) hisR ?_
  intro p e s m args below meth c s₁ Bd hml0 hP hK
  obtain ⟨rfl, hZ, hh⟩ := hP
  have hx := Bd.exec
  have hby := Bd.bytes
  have hml : c.maxLocals = 1 := hml0
  have hown : s.vm.findClass "java/util/AbstractList" = some m.cls := findClass_of_methodNamed Bd.named
  have hnm := (name_of_methodNamed Bd.named Bd.method).1
  have hlk : meth.locks = false := BodyLoose.notSynchronized Bd
  have hret := Bd.returns
  have X0 : Stand p l e ({ frames := 2, cells := 0, slots := 0, locals := 24 } : Room) s m #[(.ref a1)] below meth c s₁ [] 0 0 := Stand.of_body Bd
  have e0 : s₁.heap = h0 := by rw [← hh, Bd.state]; rfl
  have N0 := Fr.nil n0
  show Done p e below s (Qrm4 Z a1 h0 n0) ({ frames := 2, cells := 0, slots := 0, locals := 24 } : Room).cells ({ frames := 2, cells := 0, slots := 0, locals := 24 } : Room).slots (s₁.setTop (entryFrame m #[(.ref a1)] 1))
  refine Done.step (fun t k => castTop (ef_4 m a1) k) ?_
  show Done p e below s _ _ _ (s₁.setTop (mkF m 0 #[.val (.ref a1)] []))
  refine Done.step (fun t k => XS.aloadN X0.here hx rfl (hb hby d4_0) rfl rfl k) ?_
  show Done p e below s _ _ _ (s₁.setTop (mkF m 1 #[.val (.ref a1)] [(.ref a1)]))
  obtain ⟨v101, _, ⟨T101, L101, k101, n101⟩, -, X101, ⟨Lc101, hQ101, l101, y101, z101⟩, st101⟩ := X0.specialBack hx (y := (⟨"java/util/AbstractCollection", "<init>", "()V"⟩ : MethodName)) rfl hown (mvT hZ (hw _ (List.mem_of_getElem? (i := 23) rfl))) (mvT hZ (hw _ (List.mem_of_getElem? (i := 24) rfl))) (mvT hZ (hw _ (List.mem_of_getElem? (i := 28) rfl))) (by decide) (backOf (W := 0) (rm5 l Z a0 hw [] a1  h0 n0 Z0 ) hZ (hw _ (List.mem_of_getElem? (i := 28) rfl)) (hw _ (List.mem_of_getElem? (i := 27) rfl)) (by decide) (by decide)) (g := (mkF m 1 #[.val (.ref a1)] [(.ref a1)])) rfl (by rw [hml]; rfl) (Steps.refl _) (a := a1) (argsL := []) (rest := []) (lenOf pd_0 rfl) rfl (by show 2 * 0 + _ ≤ _; exact Nat.le_of_eq rfl) (hb hby d4_1) (fun _ _ => ⟨rfl, e0, (by decide : 0 + 0 ≤ _), (by decide : 0 + 0 ≤ _)⟩)
  dsimp only [Pt.U, Pt.locs, Pt.cells, Pt.slots] at X101 l101 y101 z101 st101 hQ101
  subst l101 y101 z101
  refine Done.far st101 ?_
  obtain ⟨rfl, N101q, e101⟩ := hQ101
  have N101 := Fr.app N0 N101q
  show Done p e below s _ _ _ (T101.setTop (mkF m 4 #[.val (.ref a1)] []))
  refine Done.step (fun t k => XS.aloadN X101.here hx rfl (hb hby d4_4) rfl rfl k) ?_
  show Done p e below s _ _ _ (T101.setTop (mkF m 5 #[.val (.ref a1)] [(.ref a1)]))
  refine Done.step (fun t k => XS.iconst X101.here hx rfl (hb hby d4_5) k) ?_
  show Done p e below s _ _ _ (T101.setTop (mkF m 6 #[.val (.ref a1)] [(.int (0 : Int32)), (.ref a1)]))
  obtain ⟨T102, h102, X102, e102, W102, st102⟩ := putF X101 hx hZ hown (host := "") (Or.inl (hw _ (List.mem_of_getElem? (i := 30) rfl))) Via.refl e101 F_modCount E1 (Or.inl (hw _ (List.mem_of_getElem? (i := 31) rfl))) (hw _ (List.mem_of_getElem? (i := 12) rfl)) (ty := .int) (by decide) rfl rfl (g := (mkF m 6 #[.val (.ref a1)] [(.int (0 : Int32)), (.ref a1)])) rfl rfl (hb hby d4_6)
  have f103 : Exa Z h102 a1 "java/util/ArrayList" := E1.wr W102
  have f104 : Fld Z h102 a1 "java/util/AbstractList" "modCount" "I" (.int (0 : Int32)) := F_modCount.same W102
  have f105 : Fld Z h102 a1 "java/util/ArrayList" "elementData" "[Ljava/lang/Object;" .null := F_elementData.other W102 (Or.inr (slot_ne (Or.inl (hw _ (List.mem_of_getElem? (i := 34) rfl))) (Or.inl (hw _ (List.mem_of_getElem? (i := 31) rfl))) (by decide) (t := (.array (.object "java/lang/Object"))) (t' := .int) (by decide) (by decide)))
  have Z102 : n0 ≤ h102.size := Nat.le_trans Z0 (Keep.of_wr W102).1
  have N102 := Fr.snoc X102 N101 g1
  have K102 : Keep h0 h102 [a1] := (Keep.refl h0 [a1]).wr W102 (Or.inl (by simp))
  refine Done.step st102 ?_
  show Done p e below s _ _ _ (T102.setTop (mkF m 9 #[.val (.ref a1)] []))
  exact Done.void X102 hx hlk hret (hb hby d4_9) (by decide) (by decide) ⟨rfl, N102, (by rw [e102]; exact ⟨K102, f103, f104, f105⟩)⟩
theorem d3_0 : decode jdk_38_method_2_code 0 = .ok (.aload_n 0, 1) := by decide +kernel
theorem d3_1 : decode jdk_38_method_2_code 1 = .ok (.invokespecial 1, 3) := by decide +kernel
theorem d3_4 : decode jdk_38_method_2_code 4 = .ok (.aload_n 0, 1) := by decide +kernel
theorem d3_5 : decode jdk_38_method_2_code 5 = .ok (.getstatic 39, 3) := by decide +kernel
theorem d3_8 : decode jdk_38_method_2_code 8 = .ok (.putfield 9, 3) := by decide +kernel
theorem d3_11 : decode jdk_38_method_2_code 11 = .ok (.return_, 1) := by decide +kernel
theorem pn_3 : plainName "java/util/ArrayList" = true := by first | (simp [plainName, overriddenIn]; done) | decide +kernel
theorem ef_3 (m : MethodId) (a1 : Addr) : entryFrame m #[(.ref a1)] 1 = mkF m 0 #[.val (.ref a1)] [] := by first | (simp [entryFrame, mkF, argsToLocals, Value.category]; done) | rfl
def Qrm3 (Z : State) (a1 : Addr) (dea : Addr) (h0 : Heap) (n0 : Nat) : Option Value → Heap → List Loc → Prop := fun v h L => v = none ∧ Fr n0 L ∧ Keep h0 h [a1] ∧ Exa Z h a1 "java/util/ArrayList"
set_option maxRecDepth 65536 in
set_option maxHeartbeats 40000000 in
theorem rm3 (l : Launch) (Z : State) (a0 : Array Value) (hw : ∀ d ∈ tables_1, d.before a0 Z = true) (ws : List Jvm.Cond) (a1 : Addr) (dea : Addr) (h0 : Heap) (n0 : Nat) (Z0 : n0 ≤ h0.size) (E1 : Exa Z h0 a1 "java/util/ArrayList") (F_modCount : Fld Z h0 a1 "java/util/AbstractList" "modCount" "I" (.int (0 : Int32))) (F_elementData : Fld Z h0 a1 "java/util/ArrayList" "elementData" "[Ljava/lang/Object;" .null) (g1 : n0 ≤ a1) (Sde : Sta Z h0 "java/util/ArrayList" "DEFAULTCAPACITY_EMPTY_ELEMENTDATA" "[Ljava/lang/Object;" (.ref dea)) :
    MetFree l (⟨"java/util/ArrayList", "<init>", "()V"⟩ : MethodName) (head1 (Jvm.Cond.code (⟨"java/util/ArrayList", "<init>", "()V"⟩ : MethodName) jdk_38_method_2_code 1 none :: ws) ({ frames := 3, cells := 0, slots := 0, locals := 36 } : Room)) (fun a U => a = #[(.ref a1)] ∧ Z.Warmed39 U.vm ∧ U.heap = h0) (fun _ _ _ _ _ => True) (fun _ U o U' => ∃ v L, o = .returned v ∧ Qrm3 Z a1 dea h0 n0 v U'.heap L ∧ FrameEnd U o U' L ({ frames := 3, cells := 0, slots := 0, locals := 36 } : Room).cells ({ frames := 3, cells := 0, slots := 0, locals := 36 } : Room).slots) := by
  refine MetFree.of_bodySF (plainFor_of_name pn_3) hisR ?_
  intro p e s m args below meth c s₁ Bd hml0 hP hK
  obtain ⟨rfl, hZ, hh⟩ := hP
  have hx := Bd.exec
  have hby := Bd.bytes
  have hml : c.maxLocals = 1 := hml0
  have hown : s.vm.findClass "java/util/ArrayList" = some m.cls := findClass_of_methodNamed Bd.named
  have hnm := (name_of_methodNamed Bd.named Bd.method).1
  have hlk : meth.locks = false := BodyLoose.notSynchronized Bd
  have hret := Bd.returns
  have X0 : Stand p l e ({ frames := 3, cells := 0, slots := 0, locals := 36 } : Room) s m #[(.ref a1)] below meth c s₁ [] 0 0 := Stand.of_body Bd
  have e0 : s₁.heap = h0 := by rw [← hh, Bd.state]; rfl
  have N0 := Fr.nil n0
  show Done p e below s (Qrm3 Z a1 dea h0 n0) ({ frames := 3, cells := 0, slots := 0, locals := 36 } : Room).cells ({ frames := 3, cells := 0, slots := 0, locals := 36 } : Room).slots (s₁.setTop (entryFrame m #[(.ref a1)] 1))
  refine Done.step (fun t k => castTop (ef_3 m a1) k) ?_
  show Done p e below s _ _ _ (s₁.setTop (mkF m 0 #[.val (.ref a1)] []))
  refine Done.step (fun t k => XS.aloadN X0.here hx rfl (hb hby d3_0) rfl rfl k) ?_
  show Done p e below s _ _ _ (s₁.setTop (mkF m 1 #[.val (.ref a1)] [(.ref a1)]))
  obtain ⟨v101, _, ⟨T101, L101, k101, n101⟩, -, X101, ⟨Lc101, hQ101, l101, y101, z101⟩, st101⟩ := X0.specialBack hx (y := (⟨"java/util/AbstractList", "<init>", "()V"⟩ : MethodName)) rfl hown (mvT hZ (hw _ (List.mem_of_getElem? (i := 17) rfl))) (mvT hZ (hw _ (List.mem_of_getElem? (i := 18) rfl))) (mvT hZ (hw _ (List.mem_of_getElem? (i := 22) rfl))) (by decide) (backOf (W := 0) (rm4 l Z a0 hw [] a1  h0 n0 Z0 E1 F_modCount F_elementData g1) hZ (hw _ (List.mem_of_getElem? (i := 22) rfl)) (hw _ (List.mem_of_getElem? (i := 21) rfl)) (by decide) (by decide)) (g := (mkF m 1 #[.val (.ref a1)] [(.ref a1)])) rfl (by rw [hml]; rfl) (Steps.refl _) (a := a1) (argsL := []) (rest := []) (lenOf pd_0 rfl) rfl (by show 2 * 0 + _ ≤ _; exact Nat.le_of_eq rfl) (hb hby d3_1) (fun _ _ => ⟨rfl, e0, (by decide : 0 + 0 ≤ _), (by decide : 0 + 0 ≤ _)⟩)
  dsimp only [Pt.U, Pt.locs, Pt.cells, Pt.slots] at X101 l101 y101 z101 st101 hQ101
  subst l101 y101 z101
  refine Done.far st101 ?_
  obtain ⟨rfl, N101q, K101q, x101, y101_0, y101_1⟩ := hQ101
  have N101 := Fr.app N0 N101q
  have f102 : Exa Z T101.heap a1 "java/util/ArrayList" := E1.keep K101q
  have f103 : Sta Z T101.heap "java/util/ArrayList" "DEFAULTCAPACITY_EMPTY_ELEMENTDATA" "[Ljava/lang/Object;" (.ref dea) := own_stakeep Sde K101q (allS (own_unst E1) all0)
  have Zk101 : n0 ≤ T101.heap.size := Nat.le_trans Z0 K101q.1
  have Kk101 : Keep h0 T101.heap [a1] := (Keep.refl h0 [a1]).trans K101q (allS (Or.inl (by simp)) all0)
  show Done p e below s _ _ _ (T101.setTop (mkF m 4 #[.val (.ref a1)] []))
  refine Done.step (fun t k => XS.aloadN X101.here hx rfl (hb hby d3_4) rfl rfl k) ?_
  show Done p e below s _ _ _ (T101.setTop (mkF m 5 #[.val (.ref a1)] [(.ref a1)]))
  obtain ⟨T104, X104, e104, st104⟩ := getS2 X101 hx hZ hown (host := "") (Or.inl (hw _ (List.mem_of_getElem? (i := 32) rfl))) Via.refl rfl f103 (g := (mkF m 5 #[.val (.ref a1)] [(.ref a1)])) rfl (hb hby d3_5)
  refine Done.step st104 ?_
  show Done p e below s _ _ _ (T104.setTop (mkF m 8 #[.val (.ref a1)] [(.ref dea), (.ref a1)]))
  obtain ⟨T105, h105, X105, e105, W105, st105⟩ := putF X104 hx hZ hown (host := "") (Or.inl (hw _ (List.mem_of_getElem? (i := 33) rfl))) Via.refl e104 y101_1 f102 (Or.inl (hw _ (List.mem_of_getElem? (i := 34) rfl))) (hw _ (List.mem_of_getElem? (i := 12) rfl)) (ty := (.array (.object "java/lang/Object"))) (by decide) rfl rfl (g := (mkF m 8 #[.val (.ref a1)] [(.ref dea), (.ref a1)])) rfl rfl (hb hby d3_8)
  have f106 : Exa Z h105 a1 "java/util/ArrayList" := f102.wr W105
  have f107 : Sta Z h105 "java/util/ArrayList" "DEFAULTCAPACITY_EMPTY_ELEMENTDATA" "[Ljava/lang/Object;" (.ref dea) := f103.wr W105
  have f108 : Fld Z h105 a1 "java/util/AbstractList" "modCount" "I" (.int (0 : Int32)) := y101_0.other W105 (Or.inr (slot_ne (Or.inl (hw _ (List.mem_of_getElem? (i := 31) rfl))) (Or.inl (hw _ (List.mem_of_getElem? (i := 34) rfl))) (by decide) (t := .int) (t' := (.array (.object "java/lang/Object"))) (by decide) (by decide)))
  have f109 : Fld Z h105 a1 "java/util/ArrayList" "elementData" "[Ljava/lang/Object;" (.ref dea) := y101_1.same W105
  have Z105 : n0 ≤ h105.size := Nat.le_trans Zk101 (Keep.of_wr W105).1
  have N105 := Fr.snoc X105 N101 g1
  have K105 : Keep h0 h105 [a1] := Kk101.wr W105 (Or.inl (by simp))
  refine Done.step st105 ?_
  show Done p e below s _ _ _ (T105.setTop (mkF m 11 #[.val (.ref a1)] []))
  exact Done.void X105 hx hlk hret (hb hby d3_11) (by decide) (by decide) ⟨rfl, N105, (by rw [e105]; exact ⟨K105, f106⟩)⟩
theorem d6_0 : decode jdk_69_method_7_code 0 = .ok (.aload_n 0, 1) := by decide +kernel
theorem d6_1 : decode jdk_69_method_7_code 1 = .ok (.invokespecial 43, 3) := by decide +kernel
theorem d6_4 : decode jdk_69_method_7_code 4 = .ok (.aload_n 0, 1) := by decide +kernel
theorem d6_5 : decode jdk_69_method_7_code 5 = .ok (.ldc 92, 2) := by decide +kernel
theorem d6_7 : decode jdk_69_method_7_code 7 = .ok (.putfield 81, 3) := by decide +kernel
theorem d6_10 : decode jdk_69_method_7_code 10 = .ok (.return_, 1) := by decide +kernel
theorem pn_6 : plainName "java/util/HashMap" = true := by first | (simp [plainName, overriddenIn]; done) | decide +kernel
theorem ef_6 (m : MethodId) (a1 : Addr) : entryFrame m #[(.ref a1)] 1 = mkF m 0 #[.val (.ref a1)] [] := by first | (simp [entryFrame, mkF, argsToLocals, Value.category]; done) | rfl
def Qrm6 (Z : State) (a1 : Addr) (h0 : Heap) (n0 : Nat) : Option Value → Heap → List Loc → Prop := fun v h L => v = none ∧ Fr n0 L ∧ Keep h0 h [a1] ∧ Exa Z h a1 "java/util/HashMap"
set_option maxRecDepth 65536 in
set_option maxHeartbeats 40000000 in
theorem rm6 (l : Launch) (Z : State) (a0 : Array Value) (hw : ∀ d ∈ tables_1, d.before a0 Z = true) (ws : List Jvm.Cond) (a1 : Addr) (h0 : Heap) (n0 : Nat) (Z0 : n0 ≤ h0.size) (E1 : Exa Z h0 a1 "java/util/HashMap") (F_loadFactor : Fld Z h0 a1 "java/util/HashMap" "loadFactor" "F" (.float (0 : UInt32))) (g1 : n0 ≤ a1) :
    MetFree l (⟨"java/util/HashMap", "<init>", "()V"⟩ : MethodName) (head1 (Jvm.Cond.code (⟨"java/util/HashMap", "<init>", "()V"⟩ : MethodName) jdk_69_method_7_code 1 none :: ws) ({ frames := 2, cells := 0, slots := 0, locals := 24 } : Room)) (fun a U => a = #[(.ref a1)] ∧ Z.Warmed39 U.vm ∧ U.heap = h0) (fun _ _ _ _ _ => True) (fun _ U o U' => ∃ v L, o = .returned v ∧ Qrm6 Z a1 h0 n0 v U'.heap L ∧ FrameEnd U o U' L ({ frames := 2, cells := 0, slots := 0, locals := 24 } : Room).cells ({ frames := 2, cells := 0, slots := 0, locals := 24 } : Room).slots) := by
  refine MetFree.of_bodySF (plainFor_of_name pn_6) hisR ?_
  intro p e s m args below meth c s₁ Bd hml0 hP hK
  obtain ⟨rfl, hZ, hh⟩ := hP
  have hx := Bd.exec
  have hby := Bd.bytes
  have hml : c.maxLocals = 1 := hml0
  have hown : s.vm.findClass "java/util/HashMap" = some m.cls := findClass_of_methodNamed Bd.named
  have hnm := (name_of_methodNamed Bd.named Bd.method).1
  have hlk : meth.locks = false := BodyLoose.notSynchronized Bd
  have hret := Bd.returns
  have X0 : Stand p l e ({ frames := 2, cells := 0, slots := 0, locals := 24 } : Room) s m #[(.ref a1)] below meth c s₁ [] 0 0 := Stand.of_body Bd
  have e0 : s₁.heap = h0 := by rw [← hh, Bd.state]; rfl
  have N0 := Fr.nil n0
  show Done p e below s (Qrm6 Z a1 h0 n0) ({ frames := 2, cells := 0, slots := 0, locals := 24 } : Room).cells ({ frames := 2, cells := 0, slots := 0, locals := 24 } : Room).slots (s₁.setTop (entryFrame m #[(.ref a1)] 1))
  refine Done.step (fun t k => castTop (ef_6 m a1) k) ?_
  show Done p e below s _ _ _ (s₁.setTop (mkF m 0 #[.val (.ref a1)] []))
  refine Done.step (fun t k => XS.aloadN X0.here hx rfl (hb hby d6_0) rfl rfl k) ?_
  show Done p e below s _ _ _ (s₁.setTop (mkF m 1 #[.val (.ref a1)] [(.ref a1)]))
  obtain ⟨v101, _, ⟨T101, L101, k101, n101⟩, -, X101, ⟨Lc101, hQ101, l101, y101, z101⟩, st101⟩ := X0.specialBack hx (y := (⟨"java/util/AbstractMap", "<init>", "()V"⟩ : MethodName)) rfl hown (mvT hZ (hw _ (List.mem_of_getElem? (i := 47) rfl))) (mvT hZ (hw _ (List.mem_of_getElem? (i := 48) rfl))) (mvT hZ (hw _ (List.mem_of_getElem? (i := 52) rfl))) (by decide) (backOf (W := 0) (rm7 l Z a0 hw [] a1  h0 n0 Z0 ) hZ (hw _ (List.mem_of_getElem? (i := 52) rfl)) (hw _ (List.mem_of_getElem? (i := 51) rfl)) (by decide) (by decide)) (g := (mkF m 1 #[.val (.ref a1)] [(.ref a1)])) rfl (by rw [hml]; rfl) (Steps.refl _) (a := a1) (argsL := []) (rest := []) (lenOf pd_0 rfl) rfl (by show 2 * 0 + _ ≤ _; exact Nat.le_of_eq rfl) (hb hby d6_1) (fun _ _ => ⟨rfl, e0, (by decide : 0 + 0 ≤ _), (by decide : 0 + 0 ≤ _)⟩)
  dsimp only [Pt.U, Pt.locs, Pt.cells, Pt.slots] at X101 l101 y101 z101 st101 hQ101
  subst l101 y101 z101
  refine Done.far st101 ?_
  obtain ⟨rfl, N101q, e101⟩ := hQ101
  have N101 := Fr.app N0 N101q
  show Done p e below s _ _ _ (T101.setTop (mkF m 4 #[.val (.ref a1)] []))
  refine Done.step (fun t k => XS.aloadN X101.here hx rfl (hb hby d6_4) rfl rfl k) ?_
  show Done p e below s _ _ _ (T101.setTop (mkF m 5 #[.val (.ref a1)] [(.ref a1)]))
  refine Done.step (X101.ldcFloatC hx hown (mvT hZ (hw _ (List.mem_of_getElem? (i := 54) rfl))) (g := (mkF m 5 #[.val (.ref a1)] [(.ref a1)])) rfl (hb hby d6_5)) ?_
  show Done p e below s _ _ _ (T101.setTop (mkF m 7 #[.val (.ref a1)] [(.float (1061158912 : UInt32)), (.ref a1)]))
  obtain ⟨T102, h102, X102, e102, W102, st102⟩ := putF X101 hx hZ hown (host := "") (Or.inl (hw _ (List.mem_of_getElem? (i := 55) rfl))) Via.refl e101 F_loadFactor E1 (Or.inr ⟨(hw _ (List.mem_of_getElem? (i := 56) rfl)), rfl, hnm⟩) (hw _ (List.mem_of_getElem? (i := 42) rfl)) (ty := .float) (by decide) rfl rfl (g := (mkF m 7 #[.val (.ref a1)] [(.float (1061158912 : UInt32)), (.ref a1)])) rfl rfl (hb hby d6_7)
  have f103 : Exa Z h102 a1 "java/util/HashMap" := E1.wr W102
  have f104 : Fld Z h102 a1 "java/util/HashMap" "loadFactor" "F" (.float (1061158912 : UInt32)) := F_loadFactor.same W102
  have Z102 : n0 ≤ h102.size := Nat.le_trans Z0 (Keep.of_wr W102).1
  have N102 := Fr.snoc X102 N101 g1
  have K102 : Keep h0 h102 [a1] := (Keep.refl h0 [a1]).wr W102 (Or.inl (by simp))
  refine Done.step st102 ?_
  show Done p e below s _ _ _ (T102.setTop (mkF m 10 #[.val (.ref a1)] []))
  exact Done.void X102 hx hlk hret (hb hby d6_10) (by decide) (by decide) ⟨rfl, N102, (by rw [e102]; exact ⟨K102, f103⟩)⟩
theorem d1_0 : decode prog_29_method_1_code 0 = .ok (.aload_n 0, 1) := by decide +kernel
theorem d1_1 : decode prog_29_method_1_code 1 = .ok (.invokespecial 1, 3) := by decide +kernel
theorem d1_4 : decode prog_29_method_1_code 4 = .ok (.aload_n 0, 1) := by decide +kernel
theorem d1_5 : decode prog_29_method_1_code 5 = .ok (.new 7, 3) := by decide +kernel
theorem d1_8 : decode prog_29_method_1_code 8 = .ok (.dup, 1) := by decide +kernel
theorem d1_9 : decode prog_29_method_1_code 9 = .ok (.invokespecial 9, 3) := by decide +kernel
theorem d1_12 : decode prog_29_method_1_code 12 = .ok (.putfield 10, 3) := by decide +kernel
theorem d1_15 : decode prog_29_method_1_code 15 = .ok (.aload_n 0, 1) := by decide +kernel
theorem d1_16 : decode prog_29_method_1_code 16 = .ok (.new 7, 3) := by decide +kernel
theorem d1_19 : decode prog_29_method_1_code 19 = .ok (.dup, 1) := by decide +kernel
theorem d1_20 : decode prog_29_method_1_code 20 = .ok (.invokespecial 9, 3) := by decide +kernel
theorem d1_23 : decode prog_29_method_1_code 23 = .ok (.putfield 16, 3) := by decide +kernel
theorem d1_26 : decode prog_29_method_1_code 26 = .ok (.aload_n 0, 1) := by decide +kernel
theorem d1_27 : decode prog_29_method_1_code 27 = .ok (.new 7, 3) := by decide +kernel
theorem d1_30 : decode prog_29_method_1_code 30 = .ok (.dup, 1) := by decide +kernel
theorem d1_31 : decode prog_29_method_1_code 31 = .ok (.invokespecial 9, 3) := by decide +kernel
theorem d1_34 : decode prog_29_method_1_code 34 = .ok (.putfield 19, 3) := by decide +kernel
theorem d1_37 : decode prog_29_method_1_code 37 = .ok (.aload_n 0, 1) := by decide +kernel
theorem d1_38 : decode prog_29_method_1_code 38 = .ok (.new 22, 3) := by decide +kernel
theorem d1_41 : decode prog_29_method_1_code 41 = .ok (.dup, 1) := by decide +kernel
theorem d1_42 : decode prog_29_method_1_code 42 = .ok (.invokespecial 24, 3) := by decide +kernel
theorem d1_45 : decode prog_29_method_1_code 45 = .ok (.putfield 25, 3) := by decide +kernel
theorem d1_48 : decode prog_29_method_1_code 48 = .ok (.aload_n 0, 1) := by decide +kernel
theorem d1_49 : decode prog_29_method_1_code 49 = .ok (.aload_n 2, 1) := by decide +kernel
theorem d1_50 : decode prog_29_method_1_code 50 = .ok (.invokevirtual 29, 3) := by decide +kernel
theorem d1_53 : decode prog_29_method_1_code 53 = .ok (.checkcast 30, 3) := by decide +kernel
theorem d1_56 : decode prog_29_method_1_code 56 = .ok (.putfield 35, 3) := by decide +kernel
theorem d1_59 : decode prog_29_method_1_code 59 = .ok (.aload_n 0, 1) := by decide +kernel
theorem d1_60 : decode prog_29_method_1_code 60 = .ok (.aload_n 1, 1) := by decide +kernel
theorem d1_61 : decode prog_29_method_1_code 61 = .ok (.invokevirtual 29, 3) := by decide +kernel
theorem d1_64 : decode prog_29_method_1_code 64 = .ok (.checkcast 30, 3) := by decide +kernel
theorem d1_67 : decode prog_29_method_1_code 67 = .ok (.putfield 38, 3) := by decide +kernel
theorem d1_70 : decode prog_29_method_1_code 70 = .ok (.aload_n 0, 1) := by decide +kernel
theorem d1_71 : decode prog_29_method_1_code 71 = .ok (.aload_n 2, 1) := by decide +kernel
theorem d1_72 : decode prog_29_method_1_code 72 = .ok (.invokevirtual 29, 3) := by decide +kernel
theorem d1_75 : decode prog_29_method_1_code 75 = .ok (.checkcast 30, 3) := by decide +kernel
theorem d1_78 : decode prog_29_method_1_code 78 = .ok (.putfield 41, 3) := by decide +kernel
theorem d1_81 : decode prog_29_method_1_code 81 = .ok (.return_, 1) := by decide +kernel
theorem pn_1 : plainName "com/example/stowage/stowage/solve/HostLoad" = true := by first | (simp [plainName, overriddenIn]; done) | decide +kernel
theorem ef_1 (m : MethodId) (a1 : Addr) (a2 : Addr) (a3 : Addr) : entryFrame m #[(.ref a1), (.ref a2), (.ref a3)] 3 = mkF m 0 #[.val (.ref a1), .val (.ref a2), .val (.ref a3)] [] := by first | (simp [entryFrame, mkF, argsToLocals, Value.category]; done) | rfl
def Qrm1 (Z : State) (a1 : Addr) (a2 : Addr) (a3 : Addr) (dea : Addr) (xs : List Int64) (h0 : Heap) (n0 : Nat) : Option Value → Heap → List Loc → Prop := fun v h L => v = none ∧ Fr n0 L ∧ Keep h0 h [a1] ∧ Exa Z h a1 "com/example/stowage/stowage/solve/HostLoad" ∧ ∃ d : Addr, Fld Z h a1 "com/example/stowage/stowage/solve/HostLoad" "diskFree" "[J" (.ref d) ∧ Ax Z h d .long (xs.map Value.long) ∧ h0.size ≤ d
set_option maxRecDepth 65536 in
set_option maxHeartbeats 40000000 in
theorem rm1 (l : Launch) (Z : State) (a0 : Array Value) (hw : ∀ d ∈ tables_1, d.before a0 Z = true) (ws : List Jvm.Cond) (a1 : Addr) (a2 : Addr) (a3 : Addr) (dea : Addr) (xs : List Int64) (h0 : Heap) (n0 : Nat) (Z0 : n0 ≤ h0.size) (E1 : Exa Z h0 a1 "com/example/stowage/stowage/solve/HostLoad") (F_vms : Fld Z h0 a1 "com/example/stowage/stowage/solve/HostLoad" "vms" "Ljava/util/List;" .null) (F_requests : Fld Z h0 a1 "com/example/stowage/stowage/solve/HostLoad" "requests" "Ljava/util/List;" .null) (F_vmDisks : Fld Z h0 a1 "com/example/stowage/stowage/solve/HostLoad" "vmDisks" "Ljava/util/List;" .null) (F_ruled : Fld Z h0 a1 "com/example/stowage/stowage/solve/HostLoad" "ruled" "Ljava/util/Map;" .null) (F_disks : Fld Z h0 a1 "com/example/stowage/stowage/solve/HostLoad" "disks" "[J" .null) (F_free : Fld Z h0 a1 "com/example/stowage/stowage/solve/HostLoad" "free" "[J" .null) (F_diskFree : Fld Z h0 a1 "com/example/stowage/stowage/solve/HostLoad" "diskFree" "[J" .null) (g1 : n0 ≤ a1) (Sde : Sta Z h0 "java/util/ArrayList" "DEFAULTCAPACITY_EMPTY_ELEMENTDATA" "[Ljava/lang/Object;" (.ref dea)) (E2 : Exa Z h0 a2 "[J") (A2 : Ax Z h0 a2 .long [(.long (0 : Int64))]) (E3 : Exa Z h0 a3 "[J") (A3 : Ax Z h0 a3 .long (xs.map Value.long)) (hlen : xs.length ≤ 4) :
    MetFree l (⟨"com/example/stowage/stowage/solve/HostLoad", "<init>", "([J[J)V"⟩ : MethodName) (head1 (Jvm.Cond.code (⟨"com/example/stowage/stowage/solve/HostLoad", "<init>", "([J[J)V"⟩ : MethodName) prog_29_method_1_code 3 none :: ws) ({ frames := 4, cells := 7, slots := 26, locals := 50 } : Room)) (fun a U => a = #[(.ref a1), (.ref a2), (.ref a3)] ∧ Z.Warmed39 U.vm ∧ U.heap = h0) (fun _ _ _ _ _ => True) (fun _ U o U' => ∃ v L, o = .returned v ∧ Qrm1 Z a1 a2 a3 dea xs h0 n0 v U'.heap L ∧ FrameEnd U o U' L ({ frames := 4, cells := 7, slots := 26, locals := 50 } : Room).cells ({ frames := 4, cells := 7, slots := 26, locals := 50 } : Room).slots) := by
  refine MetFree.of_bodySF (plainFor_of_name pn_1) hisR ?_
  intro p e s m args below meth c s₁ Bd hml0 hP hK
  obtain ⟨rfl, hZ, hh⟩ := hP
  have hx := Bd.exec
  have hby := Bd.bytes
  have hml : c.maxLocals = 3 := hml0
  have hown : s.vm.findClass "com/example/stowage/stowage/solve/HostLoad" = some m.cls := findClass_of_methodNamed Bd.named
  have hnm := (name_of_methodNamed Bd.named Bd.method).1
  have hlk : meth.locks = false := BodyLoose.notSynchronized Bd
  have hret := Bd.returns
  have X0 : Stand p l e ({ frames := 4, cells := 7, slots := 26, locals := 50 } : Room) s m #[(.ref a1), (.ref a2), (.ref a3)] below meth c s₁ [] 0 0 := Stand.of_body Bd
  have e0 : s₁.heap = h0 := by rw [← hh, Bd.state]; rfl
  have N0 := Fr.nil n0
  show Done p e below s (Qrm1 Z a1 a2 a3 dea xs h0 n0) ({ frames := 4, cells := 7, slots := 26, locals := 50 } : Room).cells ({ frames := 4, cells := 7, slots := 26, locals := 50 } : Room).slots (s₁.setTop (entryFrame m #[(.ref a1), (.ref a2), (.ref a3)] 3))
  refine Done.step (fun t k => castTop (ef_1 m a1 a2 a3) k) ?_
  show Done p e below s _ _ _ (s₁.setTop (mkF m 0 #[.val (.ref a1), .val (.ref a2), .val (.ref a3)] []))
  refine Done.step (fun t k => XS.aloadN X0.here hx rfl (hb hby d1_0) rfl rfl k) ?_
  show Done p e below s _ _ _ (s₁.setTop (mkF m 1 #[.val (.ref a1), .val (.ref a2), .val (.ref a3)] [(.ref a1)]))
  obtain ⟨T101, X101, e101, st101⟩ := initO X0 hx hZ hown (hw _ (List.mem_of_getElem? (i := 8) rfl)) (hw _ (List.mem_of_getElem? (i := 9) rfl)) (hw _ (List.mem_of_getElem? (i := 10) rfl)) e0 (g := (mkF m 1 #[.val (.ref a1), .val (.ref a2), .val (.ref a3)] [(.ref a1)])) rfl (by rw [hml]; rfl) rfl (hb hby d1_1) (by decide) (W := 0) (by show 2 * 0 + _ ≤ _; exact Nat.le_of_eq rfl) (by decide)
  refine Done.step st101 ?_
  show Done p e below s _ _ _ (T101.setTop (mkF m 4 #[.val (.ref a1), .val (.ref a2), .val (.ref a3)] []))
  refine Done.step (fun t k => XS.aloadN X101.here hx rfl (hb hby d1_4) rfl rfl k) ?_
  show Done p e below s _ _ _ (T101.setTop (mkF m 5 #[.val (.ref a1), .val (.ref a2), .val (.ref a3)] [(.ref a1)]))
  obtain ⟨T102, h102, X102, e102, E102, A102, D102, -, st102⟩ := newO X101 hx hZ hown (hw _ (List.mem_of_getElem? (i := 11) rfl)) (hw _ (List.mem_of_getElem? (i := 12) rfl)) (hw _ (List.mem_of_getElem? (i := 13) rfl)) e101 (g := (mkF m 5 #[.val (.ref a1), .val (.ref a2), .val (.ref a3)] [(.ref a1)])) rfl (hb hby d1_5) (by decide) (by decide)
  obtain ⟨b102, gq102⟩ : ∃ z, z = h0.size := ⟨_, rfl⟩
  rw [← gq102] at A102 D102 st102
  have ne103 : a1 ≠ b102 := Nat.ne_of_lt (Nat.lt_of_lt_of_le E1.lt (Nat.le_of_eq gq102.symm))
  have ne104 : a2 ≠ b102 := Nat.ne_of_lt (Nat.lt_of_lt_of_le E2.lt (Nat.le_of_eq gq102.symm))
  have ne105 : a3 ≠ b102 := Nat.ne_of_lt (Nat.lt_of_lt_of_le E3.lt (Nat.le_of_eq gq102.symm))
  have f106 : Exa Z h102 a1 "com/example/stowage/stowage/solve/HostLoad" := E1.ext E102
  have f107 : Fld Z h102 a1 "com/example/stowage/stowage/solve/HostLoad" "vms" "Ljava/util/List;" .null := F_vms.ext E102
  have f108 : Fld Z h102 a1 "com/example/stowage/stowage/solve/HostLoad" "requests" "Ljava/util/List;" .null := F_requests.ext E102
  have f109 : Fld Z h102 a1 "com/example/stowage/stowage/solve/HostLoad" "vmDisks" "Ljava/util/List;" .null := F_vmDisks.ext E102
  have f110 : Fld Z h102 a1 "com/example/stowage/stowage/solve/HostLoad" "ruled" "Ljava/util/Map;" .null := F_ruled.ext E102
  have f111 : Fld Z h102 a1 "com/example/stowage/stowage/solve/HostLoad" "disks" "[J" .null := F_disks.ext E102
  have f112 : Fld Z h102 a1 "com/example/stowage/stowage/solve/HostLoad" "free" "[J" .null := F_free.ext E102
  have f113 : Fld Z h102 a1 "com/example/stowage/stowage/solve/HostLoad" "diskFree" "[J" .null := F_diskFree.ext E102
  have f114 : Sta Z h102 "java/util/ArrayList" "DEFAULTCAPACITY_EMPTY_ELEMENTDATA" "[Ljava/lang/Object;" (.ref dea) := Sde.ext E102
  have f115 : Exa Z h102 a2 "[J" := E2.ext E102
  have f116 : Ax Z h102 a2 .long [(.long (0 : Int64))] := A2.ext E102
  have f117 : Exa Z h102 a3 "[J" := E3.ext E102
  have f118 : Ax Z h102 a3 .long (xs.map Value.long) := A3.ext E102
  have g_b102 : n0 ≤ b102 := Nat.le_trans Z0 (Nat.le_of_eq gq102.symm)
  have sz_b102 : h0.size ≤ b102 := Nat.le_trans (Keep.refl h0 [a1]).1 (Nat.le_of_eq gq102.symm)
  have Z102 : n0 ≤ h102.size := Nat.le_trans Z0 E102.1
  have K102 : Keep h0 h102 [a1] := (Keep.refl h0 [a1]).ext E102
  have f119 : Fld Z h102 b102 "java/util/AbstractList" "modCount" "I" (.int (0 : Int32)) := D102 (Or.inl (hw _ (List.mem_of_getElem? (i := 31) rfl))) (ty := .int) (by decide)
  have f120 : Fld Z h102 b102 "java/util/ArrayList" "elementData" "[Ljava/lang/Object;" .null := D102 (Or.inl (hw _ (List.mem_of_getElem? (i := 34) rfl))) (ty := (.array (.object "java/lang/Object"))) (by decide)
  refine Done.step st102 ?_
  show Done p e below s _ _ _ (T102.setTop (mkF m 8 #[.val (.ref a1), .val (.ref a2), .val (.ref a3)] [(.ref b102), (.ref a1)]))
  refine Done.step (fun t k => XS.dup X102.here hx rfl (hb hby d1_8) rfl rfl k) ?_
  show Done p e below s _ _ _ (T102.setTop (mkF m 9 #[.val (.ref a1), .val (.ref a2), .val (.ref a3)] [(.ref b102), (.ref b102), (.ref a1)]))
  obtain ⟨v121, _, ⟨T121, L121, k121, n121⟩, -, X121, ⟨Lc121, hQ121, l121, y121, z121⟩, st121⟩ := X102.specialBack hx (y := (⟨"java/util/ArrayList", "<init>", "()V"⟩ : MethodName)) rfl hown (mvT hZ (hw _ (List.mem_of_getElem? (i := 14) rfl))) (mvT hZ (hw _ (List.mem_of_getElem? (i := 15) rfl))) (mvT hZ (hw _ (List.mem_of_getElem? (i := 16) rfl))) (by decide) (backOf (W := 2) (rm3 l Z a0 hw [] b102 dea h102 n0 Z102 A102 f119 f120 g_b102 f114) hZ (hw _ (List.mem_of_getElem? (i := 16) rfl)) (hw _ (List.mem_of_getElem? (i := 13) rfl)) (by decide) (by decide)) (g := (mkF m 9 #[.val (.ref a1), .val (.ref a2), .val (.ref a3)] [(.ref b102), (.ref b102), (.ref a1)])) rfl (by rw [hml]; rfl) (Steps.refl _) (a := b102) (argsL := []) (rest := [(.ref b102), (.ref a1)]) (lenOf pd_0 rfl) rfl (by show 2 * 0 + _ ≤ _; exact Nat.le_of_eq rfl) (hb hby d1_9) (fun _ _ => ⟨rfl, e102, (by decide : 1 + 0 ≤ _), (by decide : 3 + 0 ≤ _)⟩)
  dsimp only [Pt.U, Pt.locs, Pt.cells, Pt.slots] at X121 l121 y121 z121 st121 hQ121
  subst l121 y121 z121
  refine Done.far st121 ?_
  obtain ⟨rfl, N121q, K121q, x121⟩ := hQ121
  have N121 := Fr.app N0 N121q
  have f122 : Exa Z T121.heap a1 "com/example/stowage/stowage/solve/HostLoad" := f106.keep K121q
  have f123 : Fld Z T121.heap a1 "com/example/stowage/stowage/solve/HostLoad" "vms" "Ljava/util/List;" .null := f107.keep K121q (ninS ne103 nin0)
  have f124 : Fld Z T121.heap a1 "com/example/stowage/stowage/solve/HostLoad" "requests" "Ljava/util/List;" .null := f108.keep K121q (ninS ne103 nin0)
  have f125 : Fld Z T121.heap a1 "com/example/stowage/stowage/solve/HostLoad" "vmDisks" "Ljava/util/List;" .null := f109.keep K121q (ninS ne103 nin0)
  have f126 : Fld Z T121.heap a1 "com/example/stowage/stowage/solve/HostLoad" "ruled" "Ljava/util/Map;" .null := f110.keep K121q (ninS ne103 nin0)
  have f127 : Fld Z T121.heap a1 "com/example/stowage/stowage/solve/HostLoad" "disks" "[J" .null := f111.keep K121q (ninS ne103 nin0)
  have f128 : Fld Z T121.heap a1 "com/example/stowage/stowage/solve/HostLoad" "free" "[J" .null := f112.keep K121q (ninS ne103 nin0)
  have f129 : Fld Z T121.heap a1 "com/example/stowage/stowage/solve/HostLoad" "diskFree" "[J" .null := f113.keep K121q (ninS ne103 nin0)
  have f130 : Sta Z T121.heap "java/util/ArrayList" "DEFAULTCAPACITY_EMPTY_ELEMENTDATA" "[Ljava/lang/Object;" (.ref dea) := own_stakeep f114 K121q (allS (own_unst A102) all0)
  have f131 : Exa Z T121.heap a2 "[J" := f115.keep K121q
  have f132 : Ax Z T121.heap a2 .long [(.long (0 : Int64))] := f116.keep K121q (ninS ne104 nin0)
  have f133 : Exa Z T121.heap a3 "[J" := f117.keep K121q
  have f134 : Ax Z T121.heap a3 .long (xs.map Value.long) := f118.keep K121q (ninS ne105 nin0)
  have f135 : Exa Z T121.heap b102 "java/util/ArrayList" := A102.keep K121q
  have Zk121 : n0 ≤ T121.heap.size := Nat.le_trans Z102 K121q.1
  have Kk121 : Keep h0 T121.heap [a1] := K102.trans K121q (allS (Or.inr sz_b102) all0)
  show Done p e below s _ _ _ (T121.setTop (mkF m 12 #[.val (.ref a1), .val (.ref a2), .val (.ref a3)] [(.ref b102), (.ref a1)]))
  obtain ⟨T136, h136, X136, e136, W136, st136⟩ := putF X121 hx hZ hown (host := "") (Or.inl (hw _ (List.mem_of_getElem? (i := 35) rfl))) Via.refl rfl f123 f122 (Or.inr ⟨(hw _ (List.mem_of_getElem? (i := 36) rfl)), rfl, hnm⟩) (hw _ (List.mem_of_getElem? (i := 3) rfl)) (ty := (.object "java/util/List")) (by decide) rfl rfl (g := (mkF m 12 #[.val (.ref a1), .val (.ref a2), .val (.ref a3)] [(.ref b102), (.ref a1)])) rfl rfl (hb hby d1_12)
  have f137 : Exa Z h136 a1 "com/example/stowage/stowage/solve/HostLoad" := f122.wr W136
  have f138 : Fld Z h136 a1 "com/example/stowage/stowage/solve/HostLoad" "vms" "Ljava/util/List;" (.ref b102) := f123.same W136
  have f139 : Fld Z h136 a1 "com/example/stowage/stowage/solve/HostLoad" "requests" "Ljava/util/List;" .null := f124.other W136 (Or.inr (slot_ne (Or.inr (hw _ (List.mem_of_getElem? (i := 38) rfl))) (Or.inr (hw _ (List.mem_of_getElem? (i := 36) rfl))) (by decide) (t := (.object "java/util/List")) (t' := (.object "java/util/List")) (by decide) (by decide)))
  have f140 : Fld Z h136 a1 "com/example/stowage/stowage/solve/HostLoad" "vmDisks" "Ljava/util/List;" .null := f125.other W136 (Or.inr (slot_ne (Or.inr (hw _ (List.mem_of_getElem? (i := 40) rfl))) (Or.inr (hw _ (List.mem_of_getElem? (i := 36) rfl))) (by decide) (t := (.object "java/util/List")) (t' := (.object "java/util/List")) (by decide) (by decide)))
  have f141 : Fld Z h136 a1 "com/example/stowage/stowage/solve/HostLoad" "ruled" "Ljava/util/Map;" .null := f126.other W136 (Or.inr (slot_ne (Or.inr (hw _ (List.mem_of_getElem? (i := 58) rfl))) (Or.inr (hw _ (List.mem_of_getElem? (i := 36) rfl))) (by decide) (t := (.object "java/util/Map")) (t' := (.object "java/util/List")) (by decide) (by decide)))
  have f142 : Fld Z h136 a1 "com/example/stowage/stowage/solve/HostLoad" "disks" "[J" .null := f127.other W136 (Or.inr (slot_ne (Or.inr (hw _ (List.mem_of_getElem? (i := 69) rfl))) (Or.inr (hw _ (List.mem_of_getElem? (i := 36) rfl))) (by decide) (t := (.array .long)) (t' := (.object "java/util/List")) (by decide) (by decide)))
  have f143 : Fld Z h136 a1 "com/example/stowage/stowage/solve/HostLoad" "free" "[J" .null := f128.other W136 (Or.inr (slot_ne (Or.inr (hw _ (List.mem_of_getElem? (i := 71) rfl))) (Or.inr (hw _ (List.mem_of_getElem? (i := 36) rfl))) (by decide) (t := (.array .long)) (t' := (.object "java/util/List")) (by decide) (by decide)))
  have f144 : Fld Z h136 a1 "com/example/stowage/stowage/solve/HostLoad" "diskFree" "[J" .null := f129.other W136 (Or.inr (slot_ne (Or.inr (hw _ (List.mem_of_getElem? (i := 73) rfl))) (Or.inr (hw _ (List.mem_of_getElem? (i := 36) rfl))) (by decide) (t := (.array .long)) (t' := (.object "java/util/List")) (by decide) (by decide)))
  have f145 : Sta Z h136 "java/util/ArrayList" "DEFAULTCAPACITY_EMPTY_ELEMENTDATA" "[Ljava/lang/Object;" (.ref dea) := f130.wr W136
  have f146 : Exa Z h136 a2 "[J" := f131.wr W136
  have f147 : Ax Z h136 a2 .long [(.long (0 : Int64))] := f132.other W136 (Ne.symm (ne_exa E1 E2 (by decide)))
  have f148 : Exa Z h136 a3 "[J" := f133.wr W136
  have f149 : Ax Z h136 a3 .long (xs.map Value.long) := f134.other W136 (Ne.symm (ne_exa E1 E3 (by decide)))
  have f150 : Exa Z h136 b102 "java/util/ArrayList" := f135.wr W136
  have Z136 : n0 ≤ h136.size := Nat.le_trans Zk121 (Keep.of_wr W136).1
  have N136 := Fr.snoc X136 N121 g1
  have K136 : Keep h0 h136 [a1] := Kk121.wr W136 (Or.inl (by simp))
  refine Done.step st136 ?_
  show Done p e below s _ _ _ (T136.setTop (mkF m 15 #[.val (.ref a1), .val (.ref a2), .val (.ref a3)] []))
  refine Done.step (fun t k => XS.aloadN X136.here hx rfl (hb hby d1_15) rfl rfl k) ?_
  show Done p e below s _ _ _ (T136.setTop (mkF m 16 #[.val (.ref a1), .val (.ref a2), .val (.ref a3)] [(.ref a1)]))
  obtain ⟨T151, h151, X151, e151, E151, A151, D151, -, st151⟩ := newO X136 hx hZ hown (hw _ (List.mem_of_getElem? (i := 11) rfl)) (hw _ (List.mem_of_getElem? (i := 12) rfl)) (hw _ (List.mem_of_getElem? (i := 13) rfl)) e136 (g := (mkF m 16 #[.val (.ref a1), .val (.ref a2), .val (.ref a3)] [(.ref a1)])) rfl (hb hby d1_16) (by decide) (by decide)
  obtain ⟨b151, gq151⟩ : ∃ z, z = h136.size := ⟨_, rfl⟩
  rw [← gq151] at A151 D151 st151
  have ne152 : a1 ≠ b151 := Nat.ne_of_lt (Nat.lt_of_lt_of_le f137.lt (Nat.le_of_eq gq151.symm))
  have ne153 : a2 ≠ b151 := Nat.ne_of_lt (Nat.lt_of_lt_of_le f146.lt (Nat.le_of_eq gq151.symm))
  have ne154 : a3 ≠ b151 := Nat.ne_of_lt (Nat.lt_of_lt_of_le f148.lt (Nat.le_of_eq gq151.symm))
  have ne155 : b102 ≠ b151 := Nat.ne_of_lt (Nat.lt_of_lt_of_le f150.lt (Nat.le_of_eq gq151.symm))
  have f156 : Exa Z h151 a1 "com/example/stowage/stowage/solve/HostLoad" := f137.ext E151
  have f157 : Fld Z h151 a1 "com/example/stowage/stowage/solve/HostLoad" "vms" "Ljava/util/List;" (.ref b102) := f138.ext E151
  have f158 : Fld Z h151 a1 "com/example/stowage/stowage/solve/HostLoad" "requests" "Ljava/util/List;" .null := f139.ext E151
  have f159 : Fld Z h151 a1 "com/example/stowage/stowage/solve/HostLoad" "vmDisks" "Ljava/util/List;" .null := f140.ext E151
  have f160 : Fld Z h151 a1 "com/example/stowage/stowage/solve/HostLoad" "ruled" "Ljava/util/Map;" .null := f141.ext E151
  have f161 : Fld Z h151 a1 "com/example/stowage/stowage/solve/HostLoad" "disks" "[J" .null := f142.ext E151
  have f162 : Fld Z h151 a1 "com/example/stowage/stowage/solve/HostLoad" "free" "[J" .null := f143.ext E151
  have f163 : Fld Z h151 a1 "com/example/stowage/stowage/solve/HostLoad" "diskFree" "[J" .null := f144.ext E151
  have f164 : Sta Z h151 "java/util/ArrayList" "DEFAULTCAPACITY_EMPTY_ELEMENTDATA" "[Ljava/lang/Object;" (.ref dea) := f145.ext E151
  have f165 : Exa Z h151 a2 "[J" := f146.ext E151
  have f166 : Ax Z h151 a2 .long [(.long (0 : Int64))] := f147.ext E151
  have f167 : Exa Z h151 a3 "[J" := f148.ext E151
  have f168 : Ax Z h151 a3 .long (xs.map Value.long) := f149.ext E151
  have f169 : Exa Z h151 b102 "java/util/ArrayList" := f150.ext E151
  have g_b151 : n0 ≤ b151 := Nat.le_trans Z136 (Nat.le_of_eq gq151.symm)
  have sz_b151 : h0.size ≤ b151 := Nat.le_trans K136.1 (Nat.le_of_eq gq151.symm)
  have Z151 : n0 ≤ h151.size := Nat.le_trans Z136 E151.1
  have K151 : Keep h0 h151 [a1] := K136.ext E151
  have f170 : Fld Z h151 b151 "java/util/AbstractList" "modCount" "I" (.int (0 : Int32)) := D151 (Or.inl (hw _ (List.mem_of_getElem? (i := 31) rfl))) (ty := .int) (by decide)
  have f171 : Fld Z h151 b151 "java/util/ArrayList" "elementData" "[Ljava/lang/Object;" .null := D151 (Or.inl (hw _ (List.mem_of_getElem? (i := 34) rfl))) (ty := (.array (.object "java/lang/Object"))) (by decide)
  refine Done.step st151 ?_
  show Done p e below s _ _ _ (T151.setTop (mkF m 19 #[.val (.ref a1), .val (.ref a2), .val (.ref a3)] [(.ref b151), (.ref a1)]))
  refine Done.step (fun t k => XS.dup X151.here hx rfl (hb hby d1_19) rfl rfl k) ?_
  show Done p e below s _ _ _ (T151.setTop (mkF m 20 #[.val (.ref a1), .val (.ref a2), .val (.ref a3)] [(.ref b151), (.ref b151), (.ref a1)]))
  obtain ⟨v172, _, ⟨T172, L172, k172, n172⟩, -, X172, ⟨Lc172, hQ172, l172, y172, z172⟩, st172⟩ := X151.specialBack hx (y := (⟨"java/util/ArrayList", "<init>", "()V"⟩ : MethodName)) rfl hown (mvT hZ (hw _ (List.mem_of_getElem? (i := 14) rfl))) (mvT hZ (hw _ (List.mem_of_getElem? (i := 15) rfl))) (mvT hZ (hw _ (List.mem_of_getElem? (i := 16) rfl))) (by decide) (backOf (W := 2) (rm3 l Z a0 hw [] b151 dea h151 n0 Z151 A151 f170 f171 g_b151 f164) hZ (hw _ (List.mem_of_getElem? (i := 16) rfl)) (hw _ (List.mem_of_getElem? (i := 13) rfl)) (by decide) (by decide)) (g := (mkF m 20 #[.val (.ref a1), .val (.ref a2), .val (.ref a3)] [(.ref b151), (.ref b151), (.ref a1)])) rfl (by rw [hml]; rfl) (Steps.refl _) (a := b151) (argsL := []) (rest := [(.ref b151), (.ref a1)]) (lenOf pd_0 rfl) rfl (by show 2 * 0 + _ ≤ _; exact Nat.le_of_eq rfl) (hb hby d1_20) (fun _ _ => ⟨rfl, e151, (by decide : 2 + 0 ≤ _), (by decide : 6 + 0 ≤ _)⟩)
  dsimp only [Pt.U, Pt.locs, Pt.cells, Pt.slots] at X172 l172 y172 z172 st172 hQ172
  subst l172 y172 z172
  refine Done.far st172 ?_
  obtain ⟨rfl, N172q, K172q, x172⟩ := hQ172
  have N172 := Fr.app N136 N172q
  have f173 : Exa Z T172.heap a1 "com/example/stowage/stowage/solve/HostLoad" := f156.keep K172q
  have f174 : Fld Z T172.heap a1 "com/example/stowage/stowage/solve/HostLoad" "vms" "Ljava/util/List;" (.ref b102) := f157.keep K172q (ninS ne152 nin0)
  have f175 : Fld Z T172.heap a1 "com/example/stowage/stowage/solve/HostLoad" "requests" "Ljava/util/List;" .null := f158.keep K172q (ninS ne152 nin0)
  have f176 : Fld Z T172.heap a1 "com/example/stowage/stowage/solve/HostLoad" "vmDisks" "Ljava/util/List;" .null := f159.keep K172q (ninS ne152 nin0)
  have f177 : Fld Z T172.heap a1 "com/example/stowage/stowage/solve/HostLoad" "ruled" "Ljava/util/Map;" .null := f160.keep K172q (ninS ne152 nin0)
  have f178 : Fld Z T172.heap a1 "com/example/stowage/stowage/solve/HostLoad" "disks" "[J" .null := f161.keep K172q (ninS ne152 nin0)
  have f179 : Fld Z T172.heap a1 "com/example/stowage/stowage/solve/HostLoad" "free" "[J" .null := f162.keep K172q (ninS ne152 nin0)
  have f180 : Fld Z T172.heap a1 "com/example/stowage/stowage/solve/HostLoad" "diskFree" "[J" .null := f163.keep K172q (ninS ne152 nin0)
  have f181 : Sta Z T172.heap "java/util/ArrayList" "DEFAULTCAPACITY_EMPTY_ELEMENTDATA" "[Ljava/lang/Object;" (.ref dea) := own_stakeep f164 K172q (allS (own_unst A151) all0)
  have f182 : Exa Z T172.heap a2 "[J" := f165.keep K172q
  have f183 : Ax Z T172.heap a2 .long [(.long (0 : Int64))] := f166.keep K172q (ninS ne153 nin0)
  have f184 : Exa Z T172.heap a3 "[J" := f167.keep K172q
  have f185 : Ax Z T172.heap a3 .long (xs.map Value.long) := f168.keep K172q (ninS ne154 nin0)
  have f186 : Exa Z T172.heap b102 "java/util/ArrayList" := f169.keep K172q
  have f187 : Exa Z T172.heap b151 "java/util/ArrayList" := A151.keep K172q
  have Zk172 : n0 ≤ T172.heap.size := Nat.le_trans Z151 K172q.1
  have Kk172 : Keep h0 T172.heap [a1] := K151.trans K172q (allS (Or.inr sz_b151) all0)
  show Done p e below s _ _ _ (T172.setTop (mkF m 23 #[.val (.ref a1), .val (.ref a2), .val (.ref a3)] [(.ref b151), (.ref a1)]))
  obtain ⟨T188, h188, X188, e188, W188, st188⟩ := putF X172 hx hZ hown (host := "") (Or.inl (hw _ (List.mem_of_getElem? (i := 37) rfl))) Via.refl rfl f175 f173 (Or.inr ⟨(hw _ (List.mem_of_getElem? (i := 38) rfl)), rfl, hnm⟩) (hw _ (List.mem_of_getElem? (i := 3) rfl)) (ty := (.object "java/util/List")) (by decide) rfl rfl (g := (mkF m 23 #[.val (.ref a1), .val (.ref a2), .val (.ref a3)] [(.ref b151), (.ref a1)])) rfl rfl (hb hby d1_23)
  have f189 : Exa Z h188 a1 "com/example/stowage/stowage/solve/HostLoad" := f173.wr W188
  have f190 : Fld Z h188 a1 "com/example/stowage/stowage/solve/HostLoad" "vms" "Ljava/util/List;" (.ref b102) := f174.other W188 (Or.inr (slot_ne (Or.inr (hw _ (List.mem_of_getElem? (i := 36) rfl))) (Or.inr (hw _ (List.mem_of_getElem? (i := 38) rfl))) (by decide) (t := (.object "java/util/List")) (t' := (.object "java/util/List")) (by decide) (by decide)))
  have f191 : Fld Z h188 a1 "com/example/stowage/stowage/solve/HostLoad" "requests" "Ljava/util/List;" (.ref b151) := f175.same W188
  have f192 : Fld Z h188 a1 "com/example/stowage/stowage/solve/HostLoad" "vmDisks" "Ljava/util/List;" .null := f176.other W188 (Or.inr (slot_ne (Or.inr (hw _ (List.mem_of_getElem? (i := 40) rfl))) (Or.inr (hw _ (List.mem_of_getElem? (i := 38) rfl))) (by decide) (t := (.object "java/util/List")) (t' := (.object "java/util/List")) (by decide) (by decide)))
  have f193 : Fld Z h188 a1 "com/example/stowage/stowage/solve/HostLoad" "ruled" "Ljava/util/Map;" .null := f177.other W188 (Or.inr (slot_ne (Or.inr (hw _ (List.mem_of_getElem? (i := 58) rfl))) (Or.inr (hw _ (List.mem_of_getElem? (i := 38) rfl))) (by decide) (t := (.object "java/util/Map")) (t' := (.object "java/util/List")) (by decide) (by decide)))
  have f194 : Fld Z h188 a1 "com/example/stowage/stowage/solve/HostLoad" "disks" "[J" .null := f178.other W188 (Or.inr (slot_ne (Or.inr (hw _ (List.mem_of_getElem? (i := 69) rfl))) (Or.inr (hw _ (List.mem_of_getElem? (i := 38) rfl))) (by decide) (t := (.array .long)) (t' := (.object "java/util/List")) (by decide) (by decide)))
  have f195 : Fld Z h188 a1 "com/example/stowage/stowage/solve/HostLoad" "free" "[J" .null := f179.other W188 (Or.inr (slot_ne (Or.inr (hw _ (List.mem_of_getElem? (i := 71) rfl))) (Or.inr (hw _ (List.mem_of_getElem? (i := 38) rfl))) (by decide) (t := (.array .long)) (t' := (.object "java/util/List")) (by decide) (by decide)))
  have f196 : Fld Z h188 a1 "com/example/stowage/stowage/solve/HostLoad" "diskFree" "[J" .null := f180.other W188 (Or.inr (slot_ne (Or.inr (hw _ (List.mem_of_getElem? (i := 73) rfl))) (Or.inr (hw _ (List.mem_of_getElem? (i := 38) rfl))) (by decide) (t := (.array .long)) (t' := (.object "java/util/List")) (by decide) (by decide)))
  have f197 : Sta Z h188 "java/util/ArrayList" "DEFAULTCAPACITY_EMPTY_ELEMENTDATA" "[Ljava/lang/Object;" (.ref dea) := f181.wr W188
  have f198 : Exa Z h188 a2 "[J" := f182.wr W188
  have f199 : Ax Z h188 a2 .long [(.long (0 : Int64))] := f183.other W188 (Ne.symm (ne_exa E1 E2 (by decide)))
  have f200 : Exa Z h188 a3 "[J" := f184.wr W188
  have f201 : Ax Z h188 a3 .long (xs.map Value.long) := f185.other W188 (Ne.symm (ne_exa E1 E3 (by decide)))
  have f202 : Exa Z h188 b102 "java/util/ArrayList" := f186.wr W188
  have f203 : Exa Z h188 b151 "java/util/ArrayList" := f187.wr W188
  have Z188 : n0 ≤ h188.size := Nat.le_trans Zk172 (Keep.of_wr W188).1
  have N188 := Fr.snoc X188 N172 g1
  have K188 : Keep h0 h188 [a1] := Kk172.wr W188 (Or.inl (by simp))
  refine Done.step st188 ?_
  show Done p e below s _ _ _ (T188.setTop (mkF m 26 #[.val (.ref a1), .val (.ref a2), .val (.ref a3)] []))
  refine Done.step (fun t k => XS.aloadN X188.here hx rfl (hb hby d1_26) rfl rfl k) ?_
  show Done p e below s _ _ _ (T188.setTop (mkF m 27 #[.val (.ref a1), .val (.ref a2), .val (.ref a3)] [(.ref a1)]))
  obtain ⟨T204, h204, X204, e204, E204, A204, D204, -, st204⟩ := newO X188 hx hZ hown (hw _ (List.mem_of_getElem? (i := 11) rfl)) (hw _ (List.mem_of_getElem? (i := 12) rfl)) (hw _ (List.mem_of_getElem? (i := 13) rfl)) e188 (g := (mkF m 27 #[.val (.ref a1), .val (.ref a2), .val (.ref a3)] [(.ref a1)])) rfl (hb hby d1_27) (by decide) (by decide)
  obtain ⟨b204, gq204⟩ : ∃ z, z = h188.size := ⟨_, rfl⟩
  rw [← gq204] at A204 D204 st204
  have ne205 : a1 ≠ b204 := Nat.ne_of_lt (Nat.lt_of_lt_of_le f189.lt (Nat.le_of_eq gq204.symm))
  have ne206 : a2 ≠ b204 := Nat.ne_of_lt (Nat.lt_of_lt_of_le f198.lt (Nat.le_of_eq gq204.symm))
  have ne207 : a3 ≠ b204 := Nat.ne_of_lt (Nat.lt_of_lt_of_le f200.lt (Nat.le_of_eq gq204.symm))
  have ne208 : b102 ≠ b204 := Nat.ne_of_lt (Nat.lt_of_lt_of_le f202.lt (Nat.le_of_eq gq204.symm))
  have ne209 : b151 ≠ b204 := Nat.ne_of_lt (Nat.lt_of_lt_of_le f203.lt (Nat.le_of_eq gq204.symm))
  have f210 : Exa Z h204 a1 "com/example/stowage/stowage/solve/HostLoad" := f189.ext E204
  have f211 : Fld Z h204 a1 "com/example/stowage/stowage/solve/HostLoad" "vms" "Ljava/util/List;" (.ref b102) := f190.ext E204
  have f212 : Fld Z h204 a1 "com/example/stowage/stowage/solve/HostLoad" "requests" "Ljava/util/List;" (.ref b151) := f191.ext E204
  have f213 : Fld Z h204 a1 "com/example/stowage/stowage/solve/HostLoad" "vmDisks" "Ljava/util/List;" .null := f192.ext E204
  have f214 : Fld Z h204 a1 "com/example/stowage/stowage/solve/HostLoad" "ruled" "Ljava/util/Map;" .null := f193.ext E204
  have f215 : Fld Z h204 a1 "com/example/stowage/stowage/solve/HostLoad" "disks" "[J" .null := f194.ext E204
  have f216 : Fld Z h204 a1 "com/example/stowage/stowage/solve/HostLoad" "free" "[J" .null := f195.ext E204
  have f217 : Fld Z h204 a1 "com/example/stowage/stowage/solve/HostLoad" "diskFree" "[J" .null := f196.ext E204
  have f218 : Sta Z h204 "java/util/ArrayList" "DEFAULTCAPACITY_EMPTY_ELEMENTDATA" "[Ljava/lang/Object;" (.ref dea) := f197.ext E204
  have f219 : Exa Z h204 a2 "[J" := f198.ext E204
  have f220 : Ax Z h204 a2 .long [(.long (0 : Int64))] := f199.ext E204
  have f221 : Exa Z h204 a3 "[J" := f200.ext E204
  have f222 : Ax Z h204 a3 .long (xs.map Value.long) := f201.ext E204
  have f223 : Exa Z h204 b102 "java/util/ArrayList" := f202.ext E204
  have f224 : Exa Z h204 b151 "java/util/ArrayList" := f203.ext E204
  have g_b204 : n0 ≤ b204 := Nat.le_trans Z188 (Nat.le_of_eq gq204.symm)
  have sz_b204 : h0.size ≤ b204 := Nat.le_trans K188.1 (Nat.le_of_eq gq204.symm)
  have Z204 : n0 ≤ h204.size := Nat.le_trans Z188 E204.1
  have K204 : Keep h0 h204 [a1] := K188.ext E204
  have f225 : Fld Z h204 b204 "java/util/AbstractList" "modCount" "I" (.int (0 : Int32)) := D204 (Or.inl (hw _ (List.mem_of_getElem? (i := 31) rfl))) (ty := .int) (by decide)
  have f226 : Fld Z h204 b204 "java/util/ArrayList" "elementData" "[Ljava/lang/Object;" .null := D204 (Or.inl (hw _ (List.mem_of_getElem? (i := 34) rfl))) (ty := (.array (.object "java/lang/Object"))) (by decide)
  refine Done.step st204 ?_
  show Done p e below s _ _ _ (T204.setTop (mkF m 30 #[.val (.ref a1), .val (.ref a2), .val (.ref a3)] [(.ref b204), (.ref a1)]))
  refine Done.step (fun t k => XS.dup X204.here hx rfl (hb hby d1_30) rfl rfl k) ?_
  show Done p e below s _ _ _ (T204.setTop (mkF m 31 #[.val (.ref a1), .val (.ref a2), .val (.ref a3)] [(.ref b204), (.ref b204), (.ref a1)]))
  obtain ⟨v227, _, ⟨T227, L227, k227, n227⟩, -, X227, ⟨Lc227, hQ227, l227, y227, z227⟩, st227⟩ := X204.specialBack hx (y := (⟨"java/util/ArrayList", "<init>", "()V"⟩ : MethodName)) rfl hown (mvT hZ (hw _ (List.mem_of_getElem? (i := 14) rfl))) (mvT hZ (hw _ (List.mem_of_getElem? (i := 15) rfl))) (mvT hZ (hw _ (List.mem_of_getElem? (i := 16) rfl))) (by decide) (backOf (W := 2) (rm3 l Z a0 hw [] b204 dea h204 n0 Z204 A204 f225 f226 g_b204 f218) hZ (hw _ (List.mem_of_getElem? (i := 16) rfl)) (hw _ (List.mem_of_getElem? (i := 13) rfl)) (by decide) (by decide)) (g := (mkF m 31 #[.val (.ref a1), .val (.ref a2), .val (.ref a3)] [(.ref b204), (.ref b204), (.ref a1)])) rfl (by rw [hml]; rfl) (Steps.refl _) (a := b204) (argsL := []) (rest := [(.ref b204), (.ref a1)]) (lenOf pd_0 rfl) rfl (by show 2 * 0 + _ ≤ _; exact Nat.le_of_eq rfl) (hb hby d1_31) (fun _ _ => ⟨rfl, e204, (by decide : 3 + 0 ≤ _), (by decide : 9 + 0 ≤ _)⟩)
  dsimp only [Pt.U, Pt.locs, Pt.cells, Pt.slots] at X227 l227 y227 z227 st227 hQ227
  subst l227 y227 z227
  refine Done.far st227 ?_
  obtain ⟨rfl, N227q, K227q, x227⟩ := hQ227
  have N227 := Fr.app N188 N227q
  have f228 : Exa Z T227.heap a1 "com/example/stowage/stowage/solve/HostLoad" := f210.keep K227q
  have f229 : Fld Z T227.heap a1 "com/example/stowage/stowage/solve/HostLoad" "vms" "Ljava/util/List;" (.ref b102) := f211.keep K227q (ninS ne205 nin0)
  have f230 : Fld Z T227.heap a1 "com/example/stowage/stowage/solve/HostLoad" "requests" "Ljava/util/List;" (.ref b151) := f212.keep K227q (ninS ne205 nin0)
  have f231 : Fld Z T227.heap a1 "com/example/stowage/stowage/solve/HostLoad" "vmDisks" "Ljava/util/List;" .null := f213.keep K227q (ninS ne205 nin0)
  have f232 : Fld Z T227.heap a1 "com/example/stowage/stowage/solve/HostLoad" "ruled" "Ljava/util/Map;" .null := f214.keep K227q (ninS ne205 nin0)
  have f233 : Fld Z T227.heap a1 "com/example/stowage/stowage/solve/HostLoad" "disks" "[J" .null := f215.keep K227q (ninS ne205 nin0)
  have f234 : Fld Z T227.heap a1 "com/example/stowage/stowage/solve/HostLoad" "free" "[J" .null := f216.keep K227q (ninS ne205 nin0)
  have f235 : Fld Z T227.heap a1 "com/example/stowage/stowage/solve/HostLoad" "diskFree" "[J" .null := f217.keep K227q (ninS ne205 nin0)
  have f236 : Sta Z T227.heap "java/util/ArrayList" "DEFAULTCAPACITY_EMPTY_ELEMENTDATA" "[Ljava/lang/Object;" (.ref dea) := own_stakeep f218 K227q (allS (own_unst A204) all0)
  have f237 : Exa Z T227.heap a2 "[J" := f219.keep K227q
  have f238 : Ax Z T227.heap a2 .long [(.long (0 : Int64))] := f220.keep K227q (ninS ne206 nin0)
  have f239 : Exa Z T227.heap a3 "[J" := f221.keep K227q
  have f240 : Ax Z T227.heap a3 .long (xs.map Value.long) := f222.keep K227q (ninS ne207 nin0)
  have f241 : Exa Z T227.heap b102 "java/util/ArrayList" := f223.keep K227q
  have f242 : Exa Z T227.heap b151 "java/util/ArrayList" := f224.keep K227q
  have f243 : Exa Z T227.heap b204 "java/util/ArrayList" := A204.keep K227q
  have Zk227 : n0 ≤ T227.heap.size := Nat.le_trans Z204 K227q.1
  have Kk227 : Keep h0 T227.heap [a1] := K204.trans K227q (allS (Or.inr sz_b204) all0)
  show Done p e below s _ _ _ (T227.setTop (mkF m 34 #[.val (.ref a1), .val (.ref a2), .val (.ref a3)] [(.ref b204), (.ref a1)]))
  obtain ⟨T244, h244, X244, e244, W244, st244⟩ := putF X227 hx hZ hown (host := "") (Or.inl (hw _ (List.mem_of_getElem? (i := 39) rfl))) Via.refl rfl f231 f228 (Or.inr ⟨(hw _ (List.mem_of_getElem? (i := 40) rfl)), rfl, hnm⟩) (hw _ (List.mem_of_getElem? (i := 3) rfl)) (ty := (.object "java/util/List")) (by decide) rfl rfl (g := (mkF m 34 #[.val (.ref a1), .val (.ref a2), .val (.ref a3)] [(.ref b204), (.ref a1)])) rfl rfl (hb hby d1_34)
  have f245 : Exa Z h244 a1 "com/example/stowage/stowage/solve/HostLoad" := f228.wr W244
  have f246 : Fld Z h244 a1 "com/example/stowage/stowage/solve/HostLoad" "vms" "Ljava/util/List;" (.ref b102) := f229.other W244 (Or.inr (slot_ne (Or.inr (hw _ (List.mem_of_getElem? (i := 36) rfl))) (Or.inr (hw _ (List.mem_of_getElem? (i := 40) rfl))) (by decide) (t := (.object "java/util/List")) (t' := (.object "java/util/List")) (by decide) (by decide)))
  have f247 : Fld Z h244 a1 "com/example/stowage/stowage/solve/HostLoad" "requests" "Ljava/util/List;" (.ref b151) := f230.other W244 (Or.inr (slot_ne (Or.inr (hw _ (List.mem_of_getElem? (i := 38) rfl))) (Or.inr (hw _ (List.mem_of_getElem? (i := 40) rfl))) (by decide) (t := (.object "java/util/List")) (t' := (.object "java/util/List")) (by decide) (by decide)))
  have f248 : Fld Z h244 a1 "com/example/stowage/stowage/solve/HostLoad" "vmDisks" "Ljava/util/List;" (.ref b204) := f231.same W244
  have f249 : Fld Z h244 a1 "com/example/stowage/stowage/solve/HostLoad" "ruled" "Ljava/util/Map;" .null := f232.other W244 (Or.inr (slot_ne (Or.inr (hw _ (List.mem_of_getElem? (i := 58) rfl))) (Or.inr (hw _ (List.mem_of_getElem? (i := 40) rfl))) (by decide) (t := (.object "java/util/Map")) (t' := (.object "java/util/List")) (by decide) (by decide)))
  have f250 : Fld Z h244 a1 "com/example/stowage/stowage/solve/HostLoad" "disks" "[J" .null := f233.other W244 (Or.inr (slot_ne (Or.inr (hw _ (List.mem_of_getElem? (i := 69) rfl))) (Or.inr (hw _ (List.mem_of_getElem? (i := 40) rfl))) (by decide) (t := (.array .long)) (t' := (.object "java/util/List")) (by decide) (by decide)))
  have f251 : Fld Z h244 a1 "com/example/stowage/stowage/solve/HostLoad" "free" "[J" .null := f234.other W244 (Or.inr (slot_ne (Or.inr (hw _ (List.mem_of_getElem? (i := 71) rfl))) (Or.inr (hw _ (List.mem_of_getElem? (i := 40) rfl))) (by decide) (t := (.array .long)) (t' := (.object "java/util/List")) (by decide) (by decide)))
  have f252 : Fld Z h244 a1 "com/example/stowage/stowage/solve/HostLoad" "diskFree" "[J" .null := f235.other W244 (Or.inr (slot_ne (Or.inr (hw _ (List.mem_of_getElem? (i := 73) rfl))) (Or.inr (hw _ (List.mem_of_getElem? (i := 40) rfl))) (by decide) (t := (.array .long)) (t' := (.object "java/util/List")) (by decide) (by decide)))
  have f253 : Sta Z h244 "java/util/ArrayList" "DEFAULTCAPACITY_EMPTY_ELEMENTDATA" "[Ljava/lang/Object;" (.ref dea) := f236.wr W244
  have f254 : Exa Z h244 a2 "[J" := f237.wr W244
  have f255 : Ax Z h244 a2 .long [(.long (0 : Int64))] := f238.other W244 (Ne.symm (ne_exa E1 E2 (by decide)))
  have f256 : Exa Z h244 a3 "[J" := f239.wr W244
  have f257 : Ax Z h244 a3 .long (xs.map Value.long) := f240.other W244 (Ne.symm (ne_exa E1 E3 (by decide)))
  have f258 : Exa Z h244 b102 "java/util/ArrayList" := f241.wr W244
  have f259 : Exa Z h244 b151 "java/util/ArrayList" := f242.wr W244
  have f260 : Exa Z h244 b204 "java/util/ArrayList" := f243.wr W244
  have Z244 : n0 ≤ h244.size := Nat.le_trans Zk227 (Keep.of_wr W244).1
  have N244 := Fr.snoc X244 N227 g1
  have K244 : Keep h0 h244 [a1] := Kk227.wr W244 (Or.inl (by simp))
  refine Done.step st244 ?_
  show Done p e below s _ _ _ (T244.setTop (mkF m 37 #[.val (.ref a1), .val (.ref a2), .val (.ref a3)] []))
  refine Done.step (fun t k => XS.aloadN X244.here hx rfl (hb hby d1_37) rfl rfl k) ?_
  show Done p e below s _ _ _ (T244.setTop (mkF m 38 #[.val (.ref a1), .val (.ref a2), .val (.ref a3)] [(.ref a1)]))
  obtain ⟨T261, h261, X261, e261, E261, A261, D261, -, st261⟩ := newO X244 hx hZ hown (hw _ (List.mem_of_getElem? (i := 41) rfl)) (hw _ (List.mem_of_getElem? (i := 42) rfl)) (hw _ (List.mem_of_getElem? (i := 43) rfl)) e244 (g := (mkF m 38 #[.val (.ref a1), .val (.ref a2), .val (.ref a3)] [(.ref a1)])) rfl (hb hby d1_38) (by decide) (by decide)
  obtain ⟨b261, gq261⟩ : ∃ z, z = h244.size := ⟨_, rfl⟩
  rw [← gq261] at A261 D261 st261
  have ne262 : a1 ≠ b261 := Nat.ne_of_lt (Nat.lt_of_lt_of_le f245.lt (Nat.le_of_eq gq261.symm))
  have ne263 : a2 ≠ b261 := Nat.ne_of_lt (Nat.lt_of_lt_of_le f254.lt (Nat.le_of_eq gq261.symm))
  have ne264 : a3 ≠ b261 := Nat.ne_of_lt (Nat.lt_of_lt_of_le f256.lt (Nat.le_of_eq gq261.symm))
  have ne265 : b102 ≠ b261 := Nat.ne_of_lt (Nat.lt_of_lt_of_le f258.lt (Nat.le_of_eq gq261.symm))
  have ne266 : b151 ≠ b261 := Nat.ne_of_lt (Nat.lt_of_lt_of_le f259.lt (Nat.le_of_eq gq261.symm))
  have ne267 : b204 ≠ b261 := Nat.ne_of_lt (Nat.lt_of_lt_of_le f260.lt (Nat.le_of_eq gq261.symm))
  have f268 : Exa Z h261 a1 "com/example/stowage/stowage/solve/HostLoad" := f245.ext E261
  have f269 : Fld Z h261 a1 "com/example/stowage/stowage/solve/HostLoad" "vms" "Ljava/util/List;" (.ref b102) := f246.ext E261
  have f270 : Fld Z h261 a1 "com/example/stowage/stowage/solve/HostLoad" "requests" "Ljava/util/List;" (.ref b151) := f247.ext E261
  have f271 : Fld Z h261 a1 "com/example/stowage/stowage/solve/HostLoad" "vmDisks" "Ljava/util/List;" (.ref b204) := f248.ext E261
  have f272 : Fld Z h261 a1 "com/example/stowage/stowage/solve/HostLoad" "ruled" "Ljava/util/Map;" .null := f249.ext E261
  have f273 : Fld Z h261 a1 "com/example/stowage/stowage/solve/HostLoad" "disks" "[J" .null := f250.ext E261
  have f274 : Fld Z h261 a1 "com/example/stowage/stowage/solve/HostLoad" "free" "[J" .null := f251.ext E261
  have f275 : Fld Z h261 a1 "com/example/stowage/stowage/solve/HostLoad" "diskFree" "[J" .null := f252.ext E261
  have f276 : Sta Z h261 "java/util/ArrayList" "DEFAULTCAPACITY_EMPTY_ELEMENTDATA" "[Ljava/lang/Object;" (.ref dea) := f253.ext E261
  have f277 : Exa Z h261 a2 "[J" := f254.ext E261
  have f278 : Ax Z h261 a2 .long [(.long (0 : Int64))] := f255.ext E261
  have f279 : Exa Z h261 a3 "[J" := f256.ext E261
  have f280 : Ax Z h261 a3 .long (xs.map Value.long) := f257.ext E261
  have f281 : Exa Z h261 b102 "java/util/ArrayList" := f258.ext E261
  have f282 : Exa Z h261 b151 "java/util/ArrayList" := f259.ext E261
  have f283 : Exa Z h261 b204 "java/util/ArrayList" := f260.ext E261
  have g_b261 : n0 ≤ b261 := Nat.le_trans Z244 (Nat.le_of_eq gq261.symm)
  have sz_b261 : h0.size ≤ b261 := Nat.le_trans K244.1 (Nat.le_of_eq gq261.symm)
  have Z261 : n0 ≤ h261.size := Nat.le_trans Z244 E261.1
  have K261 : Keep h0 h261 [a1] := K244.ext E261
  have f284 : Fld Z h261 b261 "java/util/HashMap" "loadFactor" "F" (.float (0 : UInt32)) := D261 (Or.inr (hw _ (List.mem_of_getElem? (i := 56) rfl))) (ty := .float) (by decide)
  refine Done.step st261 ?_
  show Done p e below s _ _ _ (T261.setTop (mkF m 41 #[.val (.ref a1), .val (.ref a2), .val (.ref a3)] [(.ref b261), (.ref a1)]))
  refine Done.step (fun t k => XS.dup X261.here hx rfl (hb hby d1_41) rfl rfl k) ?_
  show Done p e below s _ _ _ (T261.setTop (mkF m 42 #[.val (.ref a1), .val (.ref a2), .val (.ref a3)] [(.ref b261), (.ref b261), (.ref a1)]))
  obtain ⟨v285, _, ⟨T285, L285, k285, n285⟩, -, X285, ⟨Lc285, hQ285, l285, y285, z285⟩, st285⟩ := X261.specialBack hx (y := (⟨"java/util/HashMap", "<init>", "()V"⟩ : MethodName)) rfl hown (mvT hZ (hw _ (List.mem_of_getElem? (i := 44) rfl))) (mvT hZ (hw _ (List.mem_of_getElem? (i := 45) rfl))) (mvT hZ (hw _ (List.mem_of_getElem? (i := 46) rfl))) (by decide) (backOf (W := 2) (rm6 l Z a0 hw [] b261  h261 n0 Z261 A261 f284 g_b261) hZ (hw _ (List.mem_of_getElem? (i := 46) rfl)) (hw _ (List.mem_of_getElem? (i := 43) rfl)) (by decide) (by decide)) (g := (mkF m 42 #[.val (.ref a1), .val (.ref a2), .val (.ref a3)] [(.ref b261), (.ref b261), (.ref a1)])) rfl (by rw [hml]; rfl) (Steps.refl _) (a := b261) (argsL := []) (rest := [(.ref b261), (.ref a1)]) (lenOf pd_0 rfl) rfl (by show 2 * 0 + _ ≤ _; exact Nat.le_of_eq rfl) (hb hby d1_42) (fun _ _ => ⟨rfl, e261, (by decide : 4 + 0 ≤ _), (by decide : 17 + 0 ≤ _)⟩)
  dsimp only [Pt.U, Pt.locs, Pt.cells, Pt.slots] at X285 l285 y285 z285 st285 hQ285
  subst l285 y285 z285
  refine Done.far st285 ?_
  obtain ⟨rfl, N285q, K285q, x285⟩ := hQ285
  have N285 := Fr.app N244 N285q
  have f286 : Exa Z T285.heap a1 "com/example/stowage/stowage/solve/HostLoad" := f268.keep K285q
  have f287 : Fld Z T285.heap a1 "com/example/stowage/stowage/solve/HostLoad" "vms" "Ljava/util/List;" (.ref b102) := f269.keep K285q (ninS ne262 nin0)
  have f288 : Fld Z T285.heap a1 "com/example/stowage/stowage/solve/HostLoad" "requests" "Ljava/util/List;" (.ref b151) := f270.keep K285q (ninS ne262 nin0)
  have f289 : Fld Z T285.heap a1 "com/example/stowage/stowage/solve/HostLoad" "vmDisks" "Ljava/util/List;" (.ref b204) := f271.keep K285q (ninS ne262 nin0)
  have f290 : Fld Z T285.heap a1 "com/example/stowage/stowage/solve/HostLoad" "ruled" "Ljava/util/Map;" .null := f272.keep K285q (ninS ne262 nin0)
  have f291 : Fld Z T285.heap a1 "com/example/stowage/stowage/solve/HostLoad" "disks" "[J" .null := f273.keep K285q (ninS ne262 nin0)
  have f292 : Fld Z T285.heap a1 "com/example/stowage/stowage/solve/HostLoad" "free" "[J" .null := f274.keep K285q (ninS ne262 nin0)
  have f293 : Fld Z T285.heap a1 "com/example/stowage/stowage/solve/HostLoad" "diskFree" "[J" .null := f275.keep K285q (ninS ne262 nin0)
  have f294 : Sta Z T285.heap "java/util/ArrayList" "DEFAULTCAPACITY_EMPTY_ELEMENTDATA" "[Ljava/lang/Object;" (.ref dea) := own_stakeep f276 K285q (allS (own_unst A261) all0)
  have f295 : Exa Z T285.heap a2 "[J" := f277.keep K285q
  have f296 : Ax Z T285.heap a2 .long [(.long (0 : Int64))] := f278.keep K285q (ninS ne263 nin0)
  have f297 : Exa Z T285.heap a3 "[J" := f279.keep K285q
  have f298 : Ax Z T285.heap a3 .long (xs.map Value.long) := f280.keep K285q (ninS ne264 nin0)
  have f299 : Exa Z T285.heap b102 "java/util/ArrayList" := f281.keep K285q
  have f300 : Exa Z T285.heap b151 "java/util/ArrayList" := f282.keep K285q
  have f301 : Exa Z T285.heap b204 "java/util/ArrayList" := f283.keep K285q
  have f302 : Exa Z T285.heap b261 "java/util/HashMap" := A261.keep K285q
  have Zk285 : n0 ≤ T285.heap.size := Nat.le_trans Z261 K285q.1
  have Kk285 : Keep h0 T285.heap [a1] := K261.trans K285q (allS (Or.inr sz_b261) all0)
  show Done p e below s _ _ _ (T285.setTop (mkF m 45 #[.val (.ref a1), .val (.ref a2), .val (.ref a3)] [(.ref b261), (.ref a1)]))
  obtain ⟨T303, h303, X303, e303, W303, st303⟩ := putF X285 hx hZ hown (host := "") (Or.inl (hw _ (List.mem_of_getElem? (i := 57) rfl))) Via.refl rfl f290 f286 (Or.inr ⟨(hw _ (List.mem_of_getElem? (i := 58) rfl)), rfl, hnm⟩) (hw _ (List.mem_of_getElem? (i := 3) rfl)) (ty := (.object "java/util/Map")) (by decide) rfl rfl (g := (mkF m 45 #[.val (.ref a1), .val (.ref a2), .val (.ref a3)] [(.ref b261), (.ref a1)])) rfl rfl (hb hby d1_45)
  have f304 : Exa Z h303 a1 "com/example/stowage/stowage/solve/HostLoad" := f286.wr W303
  have f305 : Fld Z h303 a1 "com/example/stowage/stowage/solve/HostLoad" "vms" "Ljava/util/List;" (.ref b102) := f287.other W303 (Or.inr (slot_ne (Or.inr (hw _ (List.mem_of_getElem? (i := 36) rfl))) (Or.inr (hw _ (List.mem_of_getElem? (i := 58) rfl))) (by decide) (t := (.object "java/util/List")) (t' := (.object "java/util/Map")) (by decide) (by decide)))
  have f306 : Fld Z h303 a1 "com/example/stowage/stowage/solve/HostLoad" "requests" "Ljava/util/List;" (.ref b151) := f288.other W303 (Or.inr (slot_ne (Or.inr (hw _ (List.mem_of_getElem? (i := 38) rfl))) (Or.inr (hw _ (List.mem_of_getElem? (i := 58) rfl))) (by decide) (t := (.object "java/util/List")) (t' := (.object "java/util/Map")) (by decide) (by decide)))
  have f307 : Fld Z h303 a1 "com/example/stowage/stowage/solve/HostLoad" "vmDisks" "Ljava/util/List;" (.ref b204) := f289.other W303 (Or.inr (slot_ne (Or.inr (hw _ (List.mem_of_getElem? (i := 40) rfl))) (Or.inr (hw _ (List.mem_of_getElem? (i := 58) rfl))) (by decide) (t := (.object "java/util/List")) (t' := (.object "java/util/Map")) (by decide) (by decide)))
  have f308 : Fld Z h303 a1 "com/example/stowage/stowage/solve/HostLoad" "ruled" "Ljava/util/Map;" (.ref b261) := f290.same W303
  have f309 : Fld Z h303 a1 "com/example/stowage/stowage/solve/HostLoad" "disks" "[J" .null := f291.other W303 (Or.inr (slot_ne (Or.inr (hw _ (List.mem_of_getElem? (i := 69) rfl))) (Or.inr (hw _ (List.mem_of_getElem? (i := 58) rfl))) (by decide) (t := (.array .long)) (t' := (.object "java/util/Map")) (by decide) (by decide)))
  have f310 : Fld Z h303 a1 "com/example/stowage/stowage/solve/HostLoad" "free" "[J" .null := f292.other W303 (Or.inr (slot_ne (Or.inr (hw _ (List.mem_of_getElem? (i := 71) rfl))) (Or.inr (hw _ (List.mem_of_getElem? (i := 58) rfl))) (by decide) (t := (.array .long)) (t' := (.object "java/util/Map")) (by decide) (by decide)))
  have f311 : Fld Z h303 a1 "com/example/stowage/stowage/solve/HostLoad" "diskFree" "[J" .null := f293.other W303 (Or.inr (slot_ne (Or.inr (hw _ (List.mem_of_getElem? (i := 73) rfl))) (Or.inr (hw _ (List.mem_of_getElem? (i := 58) rfl))) (by decide) (t := (.array .long)) (t' := (.object "java/util/Map")) (by decide) (by decide)))
  have f312 : Sta Z h303 "java/util/ArrayList" "DEFAULTCAPACITY_EMPTY_ELEMENTDATA" "[Ljava/lang/Object;" (.ref dea) := f294.wr W303
  have f313 : Exa Z h303 a2 "[J" := f295.wr W303
  have f314 : Ax Z h303 a2 .long [(.long (0 : Int64))] := f296.other W303 (Ne.symm (ne_exa E1 E2 (by decide)))
  have f315 : Exa Z h303 a3 "[J" := f297.wr W303
  have f316 : Ax Z h303 a3 .long (xs.map Value.long) := f298.other W303 (Ne.symm (ne_exa E1 E3 (by decide)))
  have f317 : Exa Z h303 b102 "java/util/ArrayList" := f299.wr W303
  have f318 : Exa Z h303 b151 "java/util/ArrayList" := f300.wr W303
  have f319 : Exa Z h303 b204 "java/util/ArrayList" := f301.wr W303
  have f320 : Exa Z h303 b261 "java/util/HashMap" := f302.wr W303
  have Z303 : n0 ≤ h303.size := Nat.le_trans Zk285 (Keep.of_wr W303).1
  have N303 := Fr.snoc X303 N285 g1
  have K303 : Keep h0 h303 [a1] := Kk285.wr W303 (Or.inl (by simp))
  refine Done.step st303 ?_
  show Done p e below s _ _ _ (T303.setTop (mkF m 48 #[.val (.ref a1), .val (.ref a2), .val (.ref a3)] []))
  refine Done.step (fun t k => XS.aloadN X303.here hx rfl (hb hby d1_48) rfl rfl k) ?_
  show Done p e below s _ _ _ (T303.setTop (mkF m 49 #[.val (.ref a1), .val (.ref a2), .val (.ref a3)] [(.ref a1)]))
  refine Done.step (fun t k => XS.aloadN X303.here hx rfl (hb hby d1_49) rfl rfl k) ?_
  show Done p e below s _ _ _ (T303.setTop (mkF m 50 #[.val (.ref a1), .val (.ref a2), .val (.ref a3)] [(.ref a3), (.ref a1)]))
  obtain ⟨T321, h321, X321, e321, E321, A321, B321, st321⟩ := cloX X303 hx hZ hown (hw _ (List.mem_of_getElem? (i := 59) rfl)) (hw _ (List.mem_of_getElem? (i := 60) rfl)) (hw _ (List.mem_of_getElem? (i := 64) rfl)) (hw _ (List.mem_of_getElem? (i := 62) rfl)) (hw _ (List.mem_of_getElem? (i := 63) rfl)) (hw _ (List.mem_of_getElem? (i := 65) rfl)) e303 f316 f315 (by intro v hv; obtain ⟨x, -, rfl⟩ := List.mem_map.mp hv; rfl) (g := (mkF m 50 #[.val (.ref a1), .val (.ref a2), .val (.ref a3)] [(.ref a3), (.ref a1)])) rfl (by rw [hml]; rfl) rfl (hb hby d1_50) (by decide) (W := 1) (cap := 4) (by show 2 * 0 + _ ≤ _; exact Nat.le_of_eq rfl) (by decide) (by rw [List.length_map]; exact hlen) (by decide) (by decide)
  obtain ⟨b321, gq321⟩ : ∃ z, z = h303.size := ⟨_, rfl⟩
  rw [← gq321] at A321 B321 st321
  have ne322 : a1 ≠ b321 := Nat.ne_of_lt (Nat.lt_of_lt_of_le f304.lt (Nat.le_of_eq gq321.symm))
  have ne323 : a2 ≠ b321 := Nat.ne_of_lt (Nat.lt_of_lt_of_le f313.lt (Nat.le_of_eq gq321.symm))
  have ne324 : a3 ≠ b321 := Nat.ne_of_lt (Nat.lt_of_lt_of_le f315.lt (Nat.le_of_eq gq321.symm))
  have ne325 : b102 ≠ b321 := Nat.ne_of_lt (Nat.lt_of_lt_of_le f317.lt (Nat.le_of_eq gq321.symm))
  have ne326 : b151 ≠ b321 := Nat.ne_of_lt (Nat.lt_of_lt_of_le f318.lt (Nat.le_of_eq gq321.symm))
  have ne327 : b204 ≠ b321 := Nat.ne_of_lt (Nat.lt_of_lt_of_le f319.lt (Nat.le_of_eq gq321.symm))
  have ne328 : b261 ≠ b321 := Nat.ne_of_lt (Nat.lt_of_lt_of_le f320.lt (Nat.le_of_eq gq321.symm))
  have f329 : Exa Z h321 a1 "com/example/stowage/stowage/solve/HostLoad" := f304.ext E321
  have f330 : Fld Z h321 a1 "com/example/stowage/stowage/solve/HostLoad" "vms" "Ljava/util/List;" (.ref b102) := f305.ext E321
  have f331 : Fld Z h321 a1 "com/example/stowage/stowage/solve/HostLoad" "requests" "Ljava/util/List;" (.ref b151) := f306.ext E321
  have f332 : Fld Z h321 a1 "com/example/stowage/stowage/solve/HostLoad" "vmDisks" "Ljava/util/List;" (.ref b204) := f307.ext E321
  have f333 : Fld Z h321 a1 "com/example/stowage/stowage/solve/HostLoad" "ruled" "Ljava/util/Map;" (.ref b261) := f308.ext E321
  have f334 : Fld Z h321 a1 "com/example/stowage/stowage/solve/HostLoad" "disks" "[J" .null := f309.ext E321
  have f335 : Fld Z h321 a1 "com/example/stowage/stowage/solve/HostLoad" "free" "[J" .null := f310.ext E321
  have f336 : Fld Z h321 a1 "com/example/stowage/stowage/solve/HostLoad" "diskFree" "[J" .null := f311.ext E321
  have f337 : Sta Z h321 "java/util/ArrayList" "DEFAULTCAPACITY_EMPTY_ELEMENTDATA" "[Ljava/lang/Object;" (.ref dea) := f312.ext E321
  have f338 : Exa Z h321 a2 "[J" := f313.ext E321
  have f339 : Ax Z h321 a2 .long [(.long (0 : Int64))] := f314.ext E321
  have f340 : Exa Z h321 a3 "[J" := f315.ext E321
  have f341 : Ax Z h321 a3 .long (xs.map Value.long) := f316.ext E321
  have f342 : Exa Z h321 b102 "java/util/ArrayList" := f317.ext E321
  have f343 : Exa Z h321 b151 "java/util/ArrayList" := f318.ext E321
  have f344 : Exa Z h321 b204 "java/util/ArrayList" := f319.ext E321
  have f345 : Exa Z h321 b261 "java/util/HashMap" := f320.ext E321
  have g_b321 : n0 ≤ b321 := Nat.le_trans Z303 (Nat.le_of_eq gq321.symm)
  have sz_b321 : h0.size ≤ b321 := Nat.le_trans K303.1 (Nat.le_of_eq gq321.symm)
  have Z321 : n0 ≤ h321.size := Nat.le_trans Z303 E321.1
  have K321 : Keep h0 h321 [a1] := K303.ext E321
  refine Done.step st321 ?_
  show Done p e below s _ _ _ (T321.setTop (mkF m 53 #[.val (.ref a1), .val (.ref a2), .val (.ref a3)] [(.ref b321), (.ref a1)]))
  obtain ⟨T346, X346, e346, st346⟩ := castY X321 hx hZ hown (hw _ (List.mem_of_getElem? (i := 66) rfl)) e321 (Ins.self B321) (g := (mkF m 53 #[.val (.ref a1), .val (.ref a2), .val (.ref a3)] [(.ref b321), (.ref a1)])) rfl rfl (hb hby d1_53)
  refine Done.step st346 ?_
  show Done p e below s _ _ _ (T346.setTop (mkF m 56 #[.val (.ref a1), .val (.ref a2), .val (.ref a3)] [(.ref b321), (.ref a1)]))
  obtain ⟨T347, h347, X347, e347, W347, st347⟩ := putF X346 hx hZ hown (host := "") (Or.inl (hw _ (List.mem_of_getElem? (i := 68) rfl))) Via.refl e346 f334 f329 (Or.inr ⟨(hw _ (List.mem_of_getElem? (i := 69) rfl)), rfl, hnm⟩) (hw _ (List.mem_of_getElem? (i := 3) rfl)) (ty := (.array .long)) (by decide) rfl rfl (g := (mkF m 56 #[.val (.ref a1), .val (.ref a2), .val (.ref a3)] [(.ref b321), (.ref a1)])) rfl rfl (hb hby d1_56)
  have f348 : Exa Z h347 a1 "com/example/stowage/stowage/solve/HostLoad" := f329.wr W347
  have f349 : Fld Z h347 a1 "com/example/stowage/stowage/solve/HostLoad" "vms" "Ljava/util/List;" (.ref b102) := f330.other W347 (Or.inr (slot_ne (Or.inr (hw _ (List.mem_of_getElem? (i := 36) rfl))) (Or.inr (hw _ (List.mem_of_getElem? (i := 69) rfl))) (by decide) (t := (.object "java/util/List")) (t' := (.array .long)) (by decide) (by decide)))
  have f350 : Fld Z h347 a1 "com/example/stowage/stowage/solve/HostLoad" "requests" "Ljava/util/List;" (.ref b151) := f331.other W347 (Or.inr (slot_ne (Or.inr (hw _ (List.mem_of_getElem? (i := 38) rfl))) (Or.inr (hw _ (List.mem_of_getElem? (i := 69) rfl))) (by decide) (t := (.object "java/util/List")) (t' := (.array .long)) (by decide) (by decide)))
  have f351 : Fld Z h347 a1 "com/example/stowage/stowage/solve/HostLoad" "vmDisks" "Ljava/util/List;" (.ref b204) := f332.other W347 (Or.inr (slot_ne (Or.inr (hw _ (List.mem_of_getElem? (i := 40) rfl))) (Or.inr (hw _ (List.mem_of_getElem? (i := 69) rfl))) (by decide) (t := (.object "java/util/List")) (t' := (.array .long)) (by decide) (by decide)))
  have f352 : Fld Z h347 a1 "com/example/stowage/stowage/solve/HostLoad" "ruled" "Ljava/util/Map;" (.ref b261) := f333.other W347 (Or.inr (slot_ne (Or.inr (hw _ (List.mem_of_getElem? (i := 58) rfl))) (Or.inr (hw _ (List.mem_of_getElem? (i := 69) rfl))) (by decide) (t := (.object "java/util/Map")) (t' := (.array .long)) (by decide) (by decide)))
  have f353 : Fld Z h347 a1 "com/example/stowage/stowage/solve/HostLoad" "disks" "[J" (.ref b321) := f334.same W347
  have f354 : Fld Z h347 a1 "com/example/stowage/stowage/solve/HostLoad" "free" "[J" .null := f335.other W347 (Or.inr (slot_ne (Or.inr (hw _ (List.mem_of_getElem? (i := 71) rfl))) (Or.inr (hw _ (List.mem_of_getElem? (i := 69) rfl))) (by decide) (t := (.array .long)) (t' := (.array .long)) (by decide) (by decide)))
  have f355 : Fld Z h347 a1 "com/example/stowage/stowage/solve/HostLoad" "diskFree" "[J" .null := f336.other W347 (Or.inr (slot_ne (Or.inr (hw _ (List.mem_of_getElem? (i := 73) rfl))) (Or.inr (hw _ (List.mem_of_getElem? (i := 69) rfl))) (by decide) (t := (.array .long)) (t' := (.array .long)) (by decide) (by decide)))
  have f356 : Sta Z h347 "java/util/ArrayList" "DEFAULTCAPACITY_EMPTY_ELEMENTDATA" "[Ljava/lang/Object;" (.ref dea) := f337.wr W347
  have f357 : Exa Z h347 a2 "[J" := f338.wr W347
  have f358 : Ax Z h347 a2 .long [(.long (0 : Int64))] := f339.other W347 (Ne.symm (ne_exa E1 E2 (by decide)))
  have f359 : Exa Z h347 a3 "[J" := f340.wr W347
  have f360 : Ax Z h347 a3 .long (xs.map Value.long) := f341.other W347 (Ne.symm (ne_exa E1 E3 (by decide)))
  have f361 : Exa Z h347 b102 "java/util/ArrayList" := f342.wr W347
  have f362 : Exa Z h347 b151 "java/util/ArrayList" := f343.wr W347
  have f363 : Exa Z h347 b204 "java/util/ArrayList" := f344.wr W347
  have f364 : Exa Z h347 b261 "java/util/HashMap" := f345.wr W347
  have f365 : Exa Z h347 b321 "[J" := B321.wr W347
  have f366 : Ax Z h347 b321 .long (xs.map Value.long) := A321.other W347 (Ne.symm ne322)
  have Z347 : n0 ≤ h347.size := Nat.le_trans Z321 (Keep.of_wr W347).1
  have N347 := Fr.snoc X347 N303 g1
  have K347 : Keep h0 h347 [a1] := K321.wr W347 (Or.inl (by simp))
  refine Done.step st347 ?_
  show Done p e below s _ _ _ (T347.setTop (mkF m 59 #[.val (.ref a1), .val (.ref a2), .val (.ref a3)] []))
  refine Done.step (fun t k => XS.aloadN X347.here hx rfl (hb hby d1_59) rfl rfl k) ?_
  show Done p e below s _ _ _ (T347.setTop (mkF m 60 #[.val (.ref a1), .val (.ref a2), .val (.ref a3)] [(.ref a1)]))
  refine Done.step (fun t k => XS.aloadN X347.here hx rfl (hb hby d1_60) rfl rfl k) ?_
  show Done p e below s _ _ _ (T347.setTop (mkF m 61 #[.val (.ref a1), .val (.ref a2), .val (.ref a3)] [(.ref a2), (.ref a1)]))
  obtain ⟨T367, h367, X367, e367, E367, A367, B367, st367⟩ := cloX X347 hx hZ hown (hw _ (List.mem_of_getElem? (i := 59) rfl)) (hw _ (List.mem_of_getElem? (i := 60) rfl)) (hw _ (List.mem_of_getElem? (i := 64) rfl)) (hw _ (List.mem_of_getElem? (i := 62) rfl)) (hw _ (List.mem_of_getElem? (i := 63) rfl)) (hw _ (List.mem_of_getElem? (i := 65) rfl)) e347 f358 f357 (by simp [fits]) (g := (mkF m 61 #[.val (.ref a1), .val (.ref a2), .val (.ref a3)] [(.ref a2), (.ref a1)])) rfl (by rw [hml]; rfl) rfl (hb hby d1_61) (by decide) (W := 1) (cap := 1) (by show 2 * 0 + _ ≤ _; exact Nat.le_of_eq rfl) (by decide) (Nat.le_of_ble_eq_true rfl) (by decide) (by decide)
  obtain ⟨b367, gq367⟩ : ∃ z, z = h347.size := ⟨_, rfl⟩
  rw [← gq367] at A367 B367 st367
  have ne368 : a1 ≠ b367 := Nat.ne_of_lt (Nat.lt_of_lt_of_le f348.lt (Nat.le_of_eq gq367.symm))
  have ne369 : a2 ≠ b367 := Nat.ne_of_lt (Nat.lt_of_lt_of_le f357.lt (Nat.le_of_eq gq367.symm))
  have ne370 : a3 ≠ b367 := Nat.ne_of_lt (Nat.lt_of_lt_of_le f359.lt (Nat.le_of_eq gq367.symm))
  have ne371 : b102 ≠ b367 := Nat.ne_of_lt (Nat.lt_of_lt_of_le f361.lt (Nat.le_of_eq gq367.symm))
  have ne372 : b151 ≠ b367 := Nat.ne_of_lt (Nat.lt_of_lt_of_le f362.lt (Nat.le_of_eq gq367.symm))
  have ne373 : b204 ≠ b367 := Nat.ne_of_lt (Nat.lt_of_lt_of_le f363.lt (Nat.le_of_eq gq367.symm))
  have ne374 : b261 ≠ b367 := Nat.ne_of_lt (Nat.lt_of_lt_of_le f364.lt (Nat.le_of_eq gq367.symm))
  have ne375 : b321 ≠ b367 := Nat.ne_of_lt (Nat.lt_of_lt_of_le f365.lt (Nat.le_of_eq gq367.symm))
  have f376 : Exa Z h367 a1 "com/example/stowage/stowage/solve/HostLoad" := f348.ext E367
  have f377 : Fld Z h367 a1 "com/example/stowage/stowage/solve/HostLoad" "vms" "Ljava/util/List;" (.ref b102) := f349.ext E367
  have f378 : Fld Z h367 a1 "com/example/stowage/stowage/solve/HostLoad" "requests" "Ljava/util/List;" (.ref b151) := f350.ext E367
  have f379 : Fld Z h367 a1 "com/example/stowage/stowage/solve/HostLoad" "vmDisks" "Ljava/util/List;" (.ref b204) := f351.ext E367
  have f380 : Fld Z h367 a1 "com/example/stowage/stowage/solve/HostLoad" "ruled" "Ljava/util/Map;" (.ref b261) := f352.ext E367
  have f381 : Fld Z h367 a1 "com/example/stowage/stowage/solve/HostLoad" "disks" "[J" (.ref b321) := f353.ext E367
  have f382 : Fld Z h367 a1 "com/example/stowage/stowage/solve/HostLoad" "free" "[J" .null := f354.ext E367
  have f383 : Fld Z h367 a1 "com/example/stowage/stowage/solve/HostLoad" "diskFree" "[J" .null := f355.ext E367
  have f384 : Sta Z h367 "java/util/ArrayList" "DEFAULTCAPACITY_EMPTY_ELEMENTDATA" "[Ljava/lang/Object;" (.ref dea) := f356.ext E367
  have f385 : Exa Z h367 a2 "[J" := f357.ext E367
  have f386 : Ax Z h367 a2 .long [(.long (0 : Int64))] := f358.ext E367
  have f387 : Exa Z h367 a3 "[J" := f359.ext E367
  have f388 : Ax Z h367 a3 .long (xs.map Value.long) := f360.ext E367
  have f389 : Exa Z h367 b102 "java/util/ArrayList" := f361.ext E367
  have f390 : Exa Z h367 b151 "java/util/ArrayList" := f362.ext E367
  have f391 : Exa Z h367 b204 "java/util/ArrayList" := f363.ext E367
  have f392 : Exa Z h367 b261 "java/util/HashMap" := f364.ext E367
  have f393 : Exa Z h367 b321 "[J" := f365.ext E367
  have f394 : Ax Z h367 b321 .long (xs.map Value.long) := f366.ext E367
  have g_b367 : n0 ≤ b367 := Nat.le_trans Z347 (Nat.le_of_eq gq367.symm)
  have sz_b367 : h0.size ≤ b367 := Nat.le_trans K347.1 (Nat.le_of_eq gq367.symm)
  have Z367 : n0 ≤ h367.size := Nat.le_trans Z347 E367.1
  have K367 : Keep h0 h367 [a1] := K347.ext E367
  refine Done.step st367 ?_
  show Done p e below s _ _ _ (T367.setTop (mkF m 64 #[.val (.ref a1), .val (.ref a2), .val (.ref a3)] [(.ref b367), (.ref a1)]))
  obtain ⟨T395, X395, e395, st395⟩ := castY X367 hx hZ hown (hw _ (List.mem_of_getElem? (i := 66) rfl)) e367 (Ins.self B367) (g := (mkF m 64 #[.val (.ref a1), .val (.ref a2), .val (.ref a3)] [(.ref b367), (.ref a1)])) rfl rfl (hb hby d1_64)
  refine Done.step st395 ?_
  show Done p e below s _ _ _ (T395.setTop (mkF m 67 #[.val (.ref a1), .val (.ref a2), .val (.ref a3)] [(.ref b367), (.ref a1)]))
  obtain ⟨T396, h396, X396, e396, W396, st396⟩ := putF X395 hx hZ hown (host := "") (Or.inl (hw _ (List.mem_of_getElem? (i := 70) rfl))) Via.refl e395 f382 f376 (Or.inr ⟨(hw _ (List.mem_of_getElem? (i := 71) rfl)), rfl, hnm⟩) (hw _ (List.mem_of_getElem? (i := 3) rfl)) (ty := (.array .long)) (by decide) rfl rfl (g := (mkF m 67 #[.val (.ref a1), .val (.ref a2), .val (.ref a3)] [(.ref b367), (.ref a1)])) rfl rfl (hb hby d1_67)
  have f397 : Exa Z h396 a1 "com/example/stowage/stowage/solve/HostLoad" := f376.wr W396
  have f398 : Fld Z h396 a1 "com/example/stowage/stowage/solve/HostLoad" "vms" "Ljava/util/List;" (.ref b102) := f377.other W396 (Or.inr (slot_ne (Or.inr (hw _ (List.mem_of_getElem? (i := 36) rfl))) (Or.inr (hw _ (List.mem_of_getElem? (i := 71) rfl))) (by decide) (t := (.object "java/util/List")) (t' := (.array .long)) (by decide) (by decide)))
  have f399 : Fld Z h396 a1 "com/example/stowage/stowage/solve/HostLoad" "requests" "Ljava/util/List;" (.ref b151) := f378.other W396 (Or.inr (slot_ne (Or.inr (hw _ (List.mem_of_getElem? (i := 38) rfl))) (Or.inr (hw _ (List.mem_of_getElem? (i := 71) rfl))) (by decide) (t := (.object "java/util/List")) (t' := (.array .long)) (by decide) (by decide)))
  have f400 : Fld Z h396 a1 "com/example/stowage/stowage/solve/HostLoad" "vmDisks" "Ljava/util/List;" (.ref b204) := f379.other W396 (Or.inr (slot_ne (Or.inr (hw _ (List.mem_of_getElem? (i := 40) rfl))) (Or.inr (hw _ (List.mem_of_getElem? (i := 71) rfl))) (by decide) (t := (.object "java/util/List")) (t' := (.array .long)) (by decide) (by decide)))
  have f401 : Fld Z h396 a1 "com/example/stowage/stowage/solve/HostLoad" "ruled" "Ljava/util/Map;" (.ref b261) := f380.other W396 (Or.inr (slot_ne (Or.inr (hw _ (List.mem_of_getElem? (i := 58) rfl))) (Or.inr (hw _ (List.mem_of_getElem? (i := 71) rfl))) (by decide) (t := (.object "java/util/Map")) (t' := (.array .long)) (by decide) (by decide)))
  have f402 : Fld Z h396 a1 "com/example/stowage/stowage/solve/HostLoad" "disks" "[J" (.ref b321) := f381.other W396 (Or.inr (slot_ne (Or.inr (hw _ (List.mem_of_getElem? (i := 69) rfl))) (Or.inr (hw _ (List.mem_of_getElem? (i := 71) rfl))) (by decide) (t := (.array .long)) (t' := (.array .long)) (by decide) (by decide)))
  have f403 : Fld Z h396 a1 "com/example/stowage/stowage/solve/HostLoad" "free" "[J" (.ref b367) := f382.same W396
  have f404 : Fld Z h396 a1 "com/example/stowage/stowage/solve/HostLoad" "diskFree" "[J" .null := f383.other W396 (Or.inr (slot_ne (Or.inr (hw _ (List.mem_of_getElem? (i := 73) rfl))) (Or.inr (hw _ (List.mem_of_getElem? (i := 71) rfl))) (by decide) (t := (.array .long)) (t' := (.array .long)) (by decide) (by decide)))
  have f405 : Sta Z h396 "java/util/ArrayList" "DEFAULTCAPACITY_EMPTY_ELEMENTDATA" "[Ljava/lang/Object;" (.ref dea) := f384.wr W396
  have f406 : Exa Z h396 a2 "[J" := f385.wr W396
  have f407 : Ax Z h396 a2 .long [(.long (0 : Int64))] := f386.other W396 (Ne.symm (ne_exa E1 E2 (by decide)))
  have f408 : Exa Z h396 a3 "[J" := f387.wr W396
  have f409 : Ax Z h396 a3 .long (xs.map Value.long) := f388.other W396 (Ne.symm (ne_exa E1 E3 (by decide)))
  have f410 : Exa Z h396 b102 "java/util/ArrayList" := f389.wr W396
  have f411 : Exa Z h396 b151 "java/util/ArrayList" := f390.wr W396
  have f412 : Exa Z h396 b204 "java/util/ArrayList" := f391.wr W396
  have f413 : Exa Z h396 b261 "java/util/HashMap" := f392.wr W396
  have f414 : Exa Z h396 b321 "[J" := f393.wr W396
  have f415 : Ax Z h396 b321 .long (xs.map Value.long) := f394.other W396 (Ne.symm ne322)
  have f416 : Exa Z h396 b367 "[J" := B367.wr W396
  have f417 : Ax Z h396 b367 .long [(.long (0 : Int64))] := A367.other W396 (Ne.symm ne368)
  have Z396 : n0 ≤ h396.size := Nat.le_trans Z367 (Keep.of_wr W396).1
  have N396 := Fr.snoc X396 N347 g1
  have K396 : Keep h0 h396 [a1] := K367.wr W396 (Or.inl (by simp))
  refine Done.step st396 ?_
  show Done p e below s _ _ _ (T396.setTop (mkF m 70 #[.val (.ref a1), .val (.ref a2), .val (.ref a3)] []))
  refine Done.step (fun t k => XS.aloadN X396.here hx rfl (hb hby d1_70) rfl rfl k) ?_
  show Done p e below s _ _ _ (T396.setTop (mkF m 71 #[.val (.ref a1), .val (.ref a2), .val (.ref a3)] [(.ref a1)]))
  refine Done.step (fun t k => XS.aloadN X396.here hx rfl (hb hby d1_71) rfl rfl k) ?_
  show Done p e below s _ _ _ (T396.setTop (mkF m 72 #[.val (.ref a1), .val (.ref a2), .val (.ref a3)] [(.ref a3), (.ref a1)]))
  obtain ⟨T418, h418, X418, e418, E418, A418, B418, st418⟩ := cloX X396 hx hZ hown (hw _ (List.mem_of_getElem? (i := 59) rfl)) (hw _ (List.mem_of_getElem? (i := 60) rfl)) (hw _ (List.mem_of_getElem? (i := 64) rfl)) (hw _ (List.mem_of_getElem? (i := 62) rfl)) (hw _ (List.mem_of_getElem? (i := 63) rfl)) (hw _ (List.mem_of_getElem? (i := 65) rfl)) e396 f409 f408 (by intro v hv; obtain ⟨x, -, rfl⟩ := List.mem_map.mp hv; rfl) (g := (mkF m 72 #[.val (.ref a1), .val (.ref a2), .val (.ref a3)] [(.ref a3), (.ref a1)])) rfl (by rw [hml]; rfl) rfl (hb hby d1_72) (by decide) (W := 1) (cap := 4) (by show 2 * 0 + _ ≤ _; exact Nat.le_of_eq rfl) (by decide) (by rw [List.length_map]; exact hlen) (by decide) (by decide)
  obtain ⟨b418, gq418⟩ : ∃ z, z = h396.size := ⟨_, rfl⟩
  rw [← gq418] at A418 B418 st418
  have ne419 : a1 ≠ b418 := Nat.ne_of_lt (Nat.lt_of_lt_of_le f397.lt (Nat.le_of_eq gq418.symm))
  have ne420 : a2 ≠ b418 := Nat.ne_of_lt (Nat.lt_of_lt_of_le f406.lt (Nat.le_of_eq gq418.symm))
  have ne421 : a3 ≠ b418 := Nat.ne_of_lt (Nat.lt_of_lt_of_le f408.lt (Nat.le_of_eq gq418.symm))
  have ne422 : b102 ≠ b418 := Nat.ne_of_lt (Nat.lt_of_lt_of_le f410.lt (Nat.le_of_eq gq418.symm))
  have ne423 : b151 ≠ b418 := Nat.ne_of_lt (Nat.lt_of_lt_of_le f411.lt (Nat.le_of_eq gq418.symm))
  have ne424 : b204 ≠ b418 := Nat.ne_of_lt (Nat.lt_of_lt_of_le f412.lt (Nat.le_of_eq gq418.symm))
  have ne425 : b261 ≠ b418 := Nat.ne_of_lt (Nat.lt_of_lt_of_le f413.lt (Nat.le_of_eq gq418.symm))
  have ne426 : b321 ≠ b418 := Nat.ne_of_lt (Nat.lt_of_lt_of_le f414.lt (Nat.le_of_eq gq418.symm))
  have ne427 : b367 ≠ b418 := Nat.ne_of_lt (Nat.lt_of_lt_of_le f416.lt (Nat.le_of_eq gq418.symm))
  have f428 : Exa Z h418 a1 "com/example/stowage/stowage/solve/HostLoad" := f397.ext E418
  have f429 : Fld Z h418 a1 "com/example/stowage/stowage/solve/HostLoad" "vms" "Ljava/util/List;" (.ref b102) := f398.ext E418
  have f430 : Fld Z h418 a1 "com/example/stowage/stowage/solve/HostLoad" "requests" "Ljava/util/List;" (.ref b151) := f399.ext E418
  have f431 : Fld Z h418 a1 "com/example/stowage/stowage/solve/HostLoad" "vmDisks" "Ljava/util/List;" (.ref b204) := f400.ext E418
  have f432 : Fld Z h418 a1 "com/example/stowage/stowage/solve/HostLoad" "ruled" "Ljava/util/Map;" (.ref b261) := f401.ext E418
  have f433 : Fld Z h418 a1 "com/example/stowage/stowage/solve/HostLoad" "disks" "[J" (.ref b321) := f402.ext E418
  have f434 : Fld Z h418 a1 "com/example/stowage/stowage/solve/HostLoad" "free" "[J" (.ref b367) := f403.ext E418
  have f435 : Fld Z h418 a1 "com/example/stowage/stowage/solve/HostLoad" "diskFree" "[J" .null := f404.ext E418
  have f436 : Sta Z h418 "java/util/ArrayList" "DEFAULTCAPACITY_EMPTY_ELEMENTDATA" "[Ljava/lang/Object;" (.ref dea) := f405.ext E418
  have f437 : Exa Z h418 a2 "[J" := f406.ext E418
  have f438 : Ax Z h418 a2 .long [(.long (0 : Int64))] := f407.ext E418
  have f439 : Exa Z h418 a3 "[J" := f408.ext E418
  have f440 : Ax Z h418 a3 .long (xs.map Value.long) := f409.ext E418
  have f441 : Exa Z h418 b102 "java/util/ArrayList" := f410.ext E418
  have f442 : Exa Z h418 b151 "java/util/ArrayList" := f411.ext E418
  have f443 : Exa Z h418 b204 "java/util/ArrayList" := f412.ext E418
  have f444 : Exa Z h418 b261 "java/util/HashMap" := f413.ext E418
  have f445 : Exa Z h418 b321 "[J" := f414.ext E418
  have f446 : Ax Z h418 b321 .long (xs.map Value.long) := f415.ext E418
  have f447 : Exa Z h418 b367 "[J" := f416.ext E418
  have f448 : Ax Z h418 b367 .long [(.long (0 : Int64))] := f417.ext E418
  have g_b418 : n0 ≤ b418 := Nat.le_trans Z396 (Nat.le_of_eq gq418.symm)
  have sz_b418 : h0.size ≤ b418 := Nat.le_trans K396.1 (Nat.le_of_eq gq418.symm)
  have Z418 : n0 ≤ h418.size := Nat.le_trans Z396 E418.1
  have K418 : Keep h0 h418 [a1] := K396.ext E418
  refine Done.step st418 ?_
  show Done p e below s _ _ _ (T418.setTop (mkF m 75 #[.val (.ref a1), .val (.ref a2), .val (.ref a3)] [(.ref b418), (.ref a1)]))
  obtain ⟨T449, X449, e449, st449⟩ := castY X418 hx hZ hown (hw _ (List.mem_of_getElem? (i := 66) rfl)) e418 (Ins.self B418) (g := (mkF m 75 #[.val (.ref a1), .val (.ref a2), .val (.ref a3)] [(.ref b418), (.ref a1)])) rfl rfl (hb hby d1_75)
  refine Done.step st449 ?_
  show Done p e below s _ _ _ (T449.setTop (mkF m 78 #[.val (.ref a1), .val (.ref a2), .val (.ref a3)] [(.ref b418), (.ref a1)]))
  obtain ⟨T450, h450, X450, e450, W450, st450⟩ := putF X449 hx hZ hown (host := "") (Or.inl (hw _ (List.mem_of_getElem? (i := 72) rfl))) Via.refl e449 f435 f428 (Or.inr ⟨(hw _ (List.mem_of_getElem? (i := 73) rfl)), rfl, hnm⟩) (hw _ (List.mem_of_getElem? (i := 3) rfl)) (ty := (.array .long)) (by decide) rfl rfl (g := (mkF m 78 #[.val (.ref a1), .val (.ref a2), .val (.ref a3)] [(.ref b418), (.ref a1)])) rfl rfl (hb hby d1_78)
  have f451 : Exa Z h450 a1 "com/example/stowage/stowage/solve/HostLoad" := f428.wr W450
  have f452 : Fld Z h450 a1 "com/example/stowage/stowage/solve/HostLoad" "vms" "Ljava/util/List;" (.ref b102) := f429.other W450 (Or.inr (slot_ne (Or.inr (hw _ (List.mem_of_getElem? (i := 36) rfl))) (Or.inr (hw _ (List.mem_of_getElem? (i := 73) rfl))) (by decide) (t := (.object "java/util/List")) (t' := (.array .long)) (by decide) (by decide)))
  have f453 : Fld Z h450 a1 "com/example/stowage/stowage/solve/HostLoad" "requests" "Ljava/util/List;" (.ref b151) := f430.other W450 (Or.inr (slot_ne (Or.inr (hw _ (List.mem_of_getElem? (i := 38) rfl))) (Or.inr (hw _ (List.mem_of_getElem? (i := 73) rfl))) (by decide) (t := (.object "java/util/List")) (t' := (.array .long)) (by decide) (by decide)))
  have f454 : Fld Z h450 a1 "com/example/stowage/stowage/solve/HostLoad" "vmDisks" "Ljava/util/List;" (.ref b204) := f431.other W450 (Or.inr (slot_ne (Or.inr (hw _ (List.mem_of_getElem? (i := 40) rfl))) (Or.inr (hw _ (List.mem_of_getElem? (i := 73) rfl))) (by decide) (t := (.object "java/util/List")) (t' := (.array .long)) (by decide) (by decide)))
  have f455 : Fld Z h450 a1 "com/example/stowage/stowage/solve/HostLoad" "ruled" "Ljava/util/Map;" (.ref b261) := f432.other W450 (Or.inr (slot_ne (Or.inr (hw _ (List.mem_of_getElem? (i := 58) rfl))) (Or.inr (hw _ (List.mem_of_getElem? (i := 73) rfl))) (by decide) (t := (.object "java/util/Map")) (t' := (.array .long)) (by decide) (by decide)))
  have f456 : Fld Z h450 a1 "com/example/stowage/stowage/solve/HostLoad" "disks" "[J" (.ref b321) := f433.other W450 (Or.inr (slot_ne (Or.inr (hw _ (List.mem_of_getElem? (i := 69) rfl))) (Or.inr (hw _ (List.mem_of_getElem? (i := 73) rfl))) (by decide) (t := (.array .long)) (t' := (.array .long)) (by decide) (by decide)))
  have f457 : Fld Z h450 a1 "com/example/stowage/stowage/solve/HostLoad" "free" "[J" (.ref b367) := f434.other W450 (Or.inr (slot_ne (Or.inr (hw _ (List.mem_of_getElem? (i := 71) rfl))) (Or.inr (hw _ (List.mem_of_getElem? (i := 73) rfl))) (by decide) (t := (.array .long)) (t' := (.array .long)) (by decide) (by decide)))
  have f458 : Fld Z h450 a1 "com/example/stowage/stowage/solve/HostLoad" "diskFree" "[J" (.ref b418) := f435.same W450
  have f459 : Sta Z h450 "java/util/ArrayList" "DEFAULTCAPACITY_EMPTY_ELEMENTDATA" "[Ljava/lang/Object;" (.ref dea) := f436.wr W450
  have f460 : Exa Z h450 a2 "[J" := f437.wr W450
  have f461 : Ax Z h450 a2 .long [(.long (0 : Int64))] := f438.other W450 (Ne.symm (ne_exa E1 E2 (by decide)))
  have f462 : Exa Z h450 a3 "[J" := f439.wr W450
  have f463 : Ax Z h450 a3 .long (xs.map Value.long) := f440.other W450 (Ne.symm (ne_exa E1 E3 (by decide)))
  have f464 : Exa Z h450 b102 "java/util/ArrayList" := f441.wr W450
  have f465 : Exa Z h450 b151 "java/util/ArrayList" := f442.wr W450
  have f466 : Exa Z h450 b204 "java/util/ArrayList" := f443.wr W450
  have f467 : Exa Z h450 b261 "java/util/HashMap" := f444.wr W450
  have f468 : Exa Z h450 b321 "[J" := f445.wr W450
  have f469 : Ax Z h450 b321 .long (xs.map Value.long) := f446.other W450 (Ne.symm ne322)
  have f470 : Exa Z h450 b367 "[J" := f447.wr W450
  have f471 : Ax Z h450 b367 .long [(.long (0 : Int64))] := f448.other W450 (Ne.symm ne368)
  have f472 : Exa Z h450 b418 "[J" := B418.wr W450
  have f473 : Ax Z h450 b418 .long (xs.map Value.long) := A418.other W450 (Ne.symm ne419)
  have Z450 : n0 ≤ h450.size := Nat.le_trans Z418 (Keep.of_wr W450).1
  have N450 := Fr.snoc X450 N396 g1
  have K450 : Keep h0 h450 [a1] := K418.wr W450 (Or.inl (by simp))
  refine Done.step st450 ?_
  show Done p e below s _ _ _ (T450.setTop (mkF m 81 #[.val (.ref a1), .val (.ref a2), .val (.ref a3)] []))
  exact Done.void X450 hx hlk hret (hb hby d1_81) (by decide) (by decide) ⟨rfl, N450, (by rw [e450]; exact ⟨K450, f451, b418, f458, f473, sz_b418⟩)⟩
theorem own_drop {xs : List Int64} {j : Nat} {x : Int64} (h : xs[j]? = some x) : xs.drop j = x :: xs.drop (j + 1) := by
  obtain ⟨hl, rfl⟩ := List.getElem?_eq_some_iff.mp h
  exact List.drop_eq_getElem_cons hl
theorem d8_14 : decode prog_29_method_12_code 14 = .ok (.iload 5, 2) := by decide +kernel
theorem d8_16 : decode prog_29_method_12_code 16 = .ok (.iload 4, 2) := by decide +kernel
theorem d8_18 : decode prog_29_method_12_code 18 = .ok (.if_icmp .ge 20, 3) := by decide +kernel
theorem d8_21 : decode prog_29_method_12_code 21 = .ok (.aload_n 3, 1) := by decide +kernel
theorem d8_22 : decode prog_29_method_12_code 22 = .ok (.iload 5, 2) := by decide +kernel
theorem d8_24 : decode prog_29_method_12_code 24 = .ok (.laload, 1) := by decide +kernel
theorem d8_25 : decode prog_29_method_12_code 25 = .ok (.lstore 6, 2) := by decide +kernel
theorem d8_27 : decode prog_29_method_12_code 27 = .ok (.lload_n 1, 1) := by decide +kernel
theorem d8_28 : decode prog_29_method_12_code 28 = .ok (.lload 6, 2) := by decide +kernel
theorem d8_30 : decode prog_29_method_12_code 30 = .ok (.ladd, 1) := by decide +kernel
theorem d8_31 : decode prog_29_method_12_code 31 = .ok (.lstore_n 1, 1) := by decide +kernel
theorem d8_32 : decode prog_29_method_12_code 32 = .ok (.iinc 5 1, 3) := by decide +kernel
theorem d8_35 : decode prog_29_method_12_code 35 = .ok (.goto (-21), 3) := by decide +kernel
theorem d8_38 : decode prog_29_method_12_code 38 = .ok (.lload_n 1, 1) := by decide +kernel
theorem d8_39 : decode prog_29_method_12_code 39 = .ok (.lreturn, 1) := by decide +kernel
set_option maxRecDepth 65536 in
set_option maxHeartbeats 40000000 in
theorem lp14 {p : Program} {l : Launch} {e : Env} {s : State} {m : MethodId} {args : Array Value} {below : List Frame} {meth : Method} {c : Code} {Z : State} {a0 : Array Value} {h0 : Heap} {n0 : Nat} (a1 d3 : Addr) (n4 : Int32) (xs : List Int64)
    (hx : p.tables.exec = Jvm.exec) (hZ : Z.Warmed39 s.vm) (hw : ∀ d ∈ tables_1, d.before a0 Z = true) (hby : c.code = prog_29_method_12_code) (hml : c.maxLocals = 8) (hown : s.vm.findClass "com/example/stowage/stowage/solve/HostLoad" = some m.cls) (hlk : meth.locks = false) (hret : meth.sig.returnType = (some .long : Option FieldType)) (hnm : meth.name = "freeDiskSpace") (A3 : Ax Z h0 d3 .long (xs.map Value.long)) (hn4 : n4.toInt = xs.length) :
    ∀ (k : Nat) (T : State) (locs : List Loc) (j1 : Int64) (i5 : Int32) (s6 : Slot) (s7 : Slot) (X0 : Stand p l e ({ frames := 0, cells := 0, slots := 0, locals := 0 } : Room) s m args below meth c T locs 0 0) (N0 : Fr n0 locs) (Z0 : n0 ≤ h0.size) (e0 : T.heap = h0) (hs6 : (s6 = Slot.unset ∧ s7 = Slot.unset) ∨ ∃ z : Int64, s6 = .val (.long z) ∧ s7 = .second) (hk : (n4.toInt - i5.toInt).toNat < k) (hi0 : 0 ≤ i5.toInt) (hacc : (xs.drop i5.toNatClampNeg).foldl (· + ·) j1 = xs.foldl (· + ·) (0 : Int64)), Done p e below s (fun v h L => v = some (.long (xs.foldl (· + ·) (0 : Int64))) ∧ Fr n0 L ∧ h = h0) ({ frames := 0, cells := 0, slots := 0, locals := 0 } : Room).cells ({ frames := 0, cells := 0, slots := 0, locals := 0 } : Room).slots (T.setTop (mkF m 14 #[.val (.ref a1), .val (.long j1), .second, .val (.ref d3), .val (.int n4), .val (.int i5), s6, s7] [])) := by
  intro k
  induction k with
  | zero => intro T locs j1 i5 s6 s7 X0 N0 Z0 e0 hs6 hk hi0 hacc; exact absurd hk (Nat.not_lt_zero _)
  | succ k ih =>
    intro T locs j1 i5 s6 s7 X0 N0 Z0 e0 hs6 hk hi0 hacc
    show Done p e below s _ _ _ (T.setTop (mkF m 14 #[.val (.ref a1), .val (.long j1), .second, .val (.ref d3), .val (.int n4), .val (.int i5), s6, s7] []))
    refine Done.step (fun t k => XS.iload X0.here hx rfl (hb hby d8_14) rfl k) ?_
    show Done p e below s _ _ _ (T.setTop (mkF m 16 #[.val (.ref a1), .val (.long j1), .second, .val (.ref d3), .val (.int n4), .val (.int i5), s6, s7] [(.int i5)]))
    refine Done.step (fun t k => XS.iload X0.here hx rfl (hb hby d8_16) rfl k) ?_
    show Done p e below s _ _ _ (T.setTop (mkF m 18 #[.val (.ref a1), .val (.long j1), .second, .val (.ref d3), .val (.int n4), .val (.int i5), s6, s7] [(.int n4), (.int i5)]))
    by_cases c1 : i5 < n4
    · refine Done.step (fun t k => XS.icmpNo X0.here hx rfl (hb hby d8_18) rfl (tlt c1).2.1 k) ?_
      show Done p e below s _ _ _ (T.setTop (mkF m 21 #[.val (.ref a1), .val (.long j1), .second, .val (.ref d3), .val (.int n4), .val (.int i5), s6, s7] []))
      refine Done.step (fun t k => XS.aloadN X0.here hx rfl (hb hby d8_21) rfl rfl k) ?_
      show Done p e below s _ _ _ (T.setTop (mkF m 22 #[.val (.ref a1), .val (.long j1), .second, .val (.ref d3), .val (.int n4), .val (.int i5), s6, s7] [(.ref d3)]))
      refine Done.step (fun t k => XS.iload X0.here hx rfl (hb hby d8_22) rfl k) ?_
      show Done p e below s _ _ _ (T.setTop (mkF m 24 #[.val (.ref a1), .val (.long j1), .second, .val (.ref d3), .val (.int n4), .val (.int i5), s6, s7] [(.int i5), (.ref d3)]))
      have hlt : i5.toInt < n4.toInt := Int32.lt_iff_toInt_lt.mp c1
      have hnn : ¬ i5 < 0 := by rw [Int32.lt_iff_toInt_lt]; show ¬ _ < (0 : Int); omega
      have hc : (i5.toNatClampNeg : Int) = i5.toInt := by rw [Int32.toNatClampNeg]; omega
      obtain ⟨xv, hxv⟩ : ∃ x, xs[i5.toNatClampNeg]? = some x := ⟨_, List.getElem?_eq_getElem (by omega)⟩
      refine Done.step (ldJ X0 hx hZ e0 A3 (j := i5) (x := (.long xv)) hnn (by rw [List.getElem?_map, hxv]; rfl) (g := (mkF m 24 #[.val (.ref a1), .val (.long j1), .second, .val (.ref d3), .val (.int n4), .val (.int i5), s6, s7] [(.int i5), (.ref d3)])) rfl rfl (hb hby d8_24)) ?_
      show Done p e below s _ _ _ (T.setTop (mkF m 25 #[.val (.ref a1), .val (.long j1), .second, .val (.ref d3), .val (.int n4), .val (.int i5), s6, s7] [(.long xv)]))
      refine Done.step (fun t k => XS.lstore X0.here hx rfl (hb hby d8_25) rfl (l' := #[.val (.ref a1), .val (.long j1), .second, .val (.ref d3), .val (.int n4), .val (.int i5), .val (.long xv), .second]) (by rcases hs6 with ⟨rfl, rfl⟩ | ⟨z, rfl, rfl⟩ <;> rfl) k) ?_
      show Done p e below s _ _ _ (T.setTop (mkF m 27 #[.val (.ref a1), .val (.long j1), .second, .val (.ref d3), .val (.int n4), .val (.int i5), .val (.long xv), .second] []))
      refine Done.step (fun t k => XS.lloadN X0.here hx rfl (hb hby d8_27) rfl k) ?_
      show Done p e below s _ _ _ (T.setTop (mkF m 28 #[.val (.ref a1), .val (.long j1), .second, .val (.ref d3), .val (.int n4), .val (.int i5), .val (.long xv), .second] [(.long j1)]))
      refine Done.step (fun t k => XS.lload X0.here hx rfl (hb hby d8_28) rfl k) ?_
      show Done p e below s _ _ _ (T.setTop (mkF m 30 #[.val (.ref a1), .val (.long j1), .second, .val (.ref d3), .val (.int n4), .val (.int i5), .val (.long xv), .second] [(.long xv), (.long j1)]))
      refine Done.step (fun t k => XS.ladd X0.here hx rfl (hb hby d8_30) rfl k) ?_
      show Done p e below s _ _ _ (T.setTop (mkF m 31 #[.val (.ref a1), .val (.long j1), .second, .val (.ref d3), .val (.int n4), .val (.int i5), .val (.long xv), .second] [(.long (j1 + xv))]))
      refine Done.step (fun t k => XS.lstoreN X0.here hx rfl (hb hby d8_31) rfl (l' := #[.val (.ref a1), .val (.long (j1 + xv)), .second, .val (.ref d3), .val (.int n4), .val (.int i5), .val (.long xv), .second]) rfl k) ?_
      show Done p e below s _ _ _ (T.setTop (mkF m 32 #[.val (.ref a1), .val (.long (j1 + xv)), .second, .val (.ref d3), .val (.int n4), .val (.int i5), .val (.long xv), .second] []))
      refine Done.step (fun t k => XS.iinc X0.here hx rfl (hb hby d8_32) rfl (l' := #[.val (.ref a1), .val (.long (j1 + xv)), .second, .val (.ref d3), .val (.int n4), .val (.int (i5 + (1 : Int32))), .val (.long xv), .second]) rfl k) ?_
      show Done p e below s _ _ _ (T.setTop (mkF m 35 #[.val (.ref a1), .val (.long (j1 + xv)), .second, .val (.ref d3), .val (.int n4), .val (.int (i5 + (1 : Int32))), .val (.long xv), .second] []))
      refine Done.step (fun t k => XS.goto X0.here hx rfl (pc0 := 35) (pc' := 14) rfl (hb hby d8_35) (by decide) (by decide) k) ?_
      show Done p e below s _ _ _ (T.setTop (mkF m 14 #[.val (.ref a1), .val (.long (j1 + xv)), .second, .val (.ref d3), .val (.int n4), .val (.int (i5 + (1 : Int32))), .val (.long xv), .second] []))
      have hip : (i5 + (1 : Int32)).toInt = i5.toInt + 1 := by have a := c_iadd i5 (1 : Int32); have r := rng32 (i5 + (1 : Int32)); have r2 := rng32 n4; have e1 : (1 : Int32).toInt = 1 := rfl; omega
      have hcp : (i5 + (1 : Int32)).toNatClampNeg = i5.toNatClampNeg + 1 := by rw [Int32.toNatClampNeg, Int32.toNatClampNeg]; omega
      exact ih T _ (j1 + xv) (i5 + (1 : Int32)) (.val (.long xv)) .second X0 N0 Z0 e0 (Or.inr ⟨_, rfl, rfl⟩) (by omega) (by omega) (by rw [hcp]; rw [own_drop hxv] at hacc; exact hacc)
    · refine Done.step (fun t k => XS.icmpYes X0.here hx rfl (pc0 := 18) (pc' := 38) rfl (hb hby d8_18) rfl (flt c1).2.1 (by decide) (by decide) k) ?_
      show Done p e below s _ _ _ (T.setTop (mkF m 38 #[.val (.ref a1), .val (.long j1), .second, .val (.ref d3), .val (.int n4), .val (.int i5), s6, s7] []))
      refine Done.step (fun t k => XS.lloadN X0.here hx rfl (hb hby d8_38) rfl k) ?_
      show Done p e below s _ _ _ (T.setTop (mkF m 39 #[.val (.ref a1), .val (.long j1), .second, .val (.ref d3), .val (.int n4), .val (.int i5), s6, s7] [(.long j1)]))
      have hge : n4.toInt ≤ i5.toInt := by have := Int.not_lt.mp (fun q => c1 (Int32.lt_iff_toInt_lt.mpr q)); omega
      have hc : (i5.toNatClampNeg : Int) = i5.toInt := by rw [Int32.toNatClampNeg]; omega
      rw [List.drop_eq_nil_of_le (by omega)] at hacc
      exact Done.long X0 hx hlk hret (hb hby d8_39) (by decide) (by decide) ⟨by rw [← hacc] <;> rfl, N0, e0⟩
theorem d8_0 : decode prog_29_method_12_code 0 = .ok (.lconst 0, 1) := by decide +kernel
theorem d8_1 : decode prog_29_method_12_code 1 = .ok (.lstore_n 1, 1) := by decide +kernel
theorem d8_2 : decode prog_29_method_12_code 2 = .ok (.aload_n 0, 1) := by decide +kernel
theorem d8_3 : decode prog_29_method_12_code 3 = .ok (.getfield 41, 3) := by decide +kernel
theorem d8_6 : decode prog_29_method_12_code 6 = .ok (.astore_n 3, 1) := by decide +kernel
theorem d8_7 : decode prog_29_method_12_code 7 = .ok (.aload_n 3, 1) := by decide +kernel
theorem d8_8 : decode prog_29_method_12_code 8 = .ok (.arraylength, 1) := by decide +kernel
theorem d8_9 : decode prog_29_method_12_code 9 = .ok (.istore 4, 2) := by decide +kernel
theorem d8_11 : decode prog_29_method_12_code 11 = .ok (.iconst 0, 1) := by decide +kernel
theorem d8_12 : decode prog_29_method_12_code 12 = .ok (.istore 5, 2) := by decide +kernel
theorem pn_8 : plainName "com/example/stowage/stowage/solve/HostLoad" = true := by first | (simp [plainName, overriddenIn]; done) | decide +kernel
theorem ef_8 (m : MethodId) (a1 : Addr) : entryFrame m #[(.ref a1)] 8 = mkF m 0 #[.val (.ref a1), .unset, .unset, .unset, .unset, .unset, .unset, .unset] [] := by first | (simp [entryFrame, mkF, argsToLocals, Value.category]; done) | rfl
def Qrm8 (Z : State) (a1 : Addr) (d3 : Addr) (xs : List Int64) (h0 : Heap) (n0 : Nat) : Option Value → Heap → List Loc → Prop := fun v h L => v = some (.long (xs.foldl (· + ·) (0 : Int64))) ∧ Fr n0 L ∧ h = h0
set_option maxRecDepth 65536 in
set_option maxHeartbeats 40000000 in
theorem rm8 (l : Launch) (Z : State) (a0 : Array Value) (hw : ∀ d ∈ tables_1, d.before a0 Z = true) (ws : List Jvm.Cond) (a1 : Addr) (d3 : Addr) (xs : List Int64) (h0 : Heap) (n0 : Nat) (Z0 : n0 ≤ h0.size) (Fd : Fld Z h0 a1 "com/example/stowage/stowage/solve/HostLoad" "diskFree" "[J" (.ref d3)) (A3 : Ax Z h0 d3 .long (xs.map Value.long)) (hlen : xs.length ≤ 4) :
    MetFree l (⟨"com/example/stowage/stowage/solve/HostLoad", "freeDiskSpace", "()J"⟩ : MethodName) (head1 (Jvm.Cond.code (⟨"com/example/stowage/stowage/solve/HostLoad", "freeDiskSpace", "()J"⟩ : MethodName) prog_29_method_12_code 8 (some .long) :: ws) ({ frames := 0, cells := 0, slots := 0, locals := 0 } : Room)) (fun a U => a = #[(.ref a1)] ∧ Z.Warmed39 U.vm ∧ U.heap = h0) (fun _ _ _ _ _ => True) (fun _ U o U' => ∃ v L, o = .returned v ∧ Qrm8 Z a1 d3 xs h0 n0 v U'.heap L ∧ FrameEnd U o U' L ({ frames := 0, cells := 0, slots := 0, locals := 0 } : Room).cells ({ frames := 0, cells := 0, slots := 0, locals := 0 } : Room).slots) := by
  refine MetFree.of_bodySF (plainFor_of_name pn_8) hisR ?_
  intro p e s m args below meth c s₁ Bd hml0 hP hK
  obtain ⟨rfl, hZ, hh⟩ := hP
  have hx := Bd.exec
  have hby := Bd.bytes
  have hml : c.maxLocals = 8 := hml0
  have hown : s.vm.findClass "com/example/stowage/stowage/solve/HostLoad" = some m.cls := findClass_of_methodNamed Bd.named
  have hnm := (name_of_methodNamed Bd.named Bd.method).1
  have hlk : meth.locks = false := BodyLoose.notSynchronized Bd
  have hret := Bd.returns
  have X0 : Stand p l e ({ frames := 0, cells := 0, slots := 0, locals := 0 } : Room) s m #[(.ref a1)] below meth c s₁ [] 0 0 := Stand.of_body Bd
  have e0 : s₁.heap = h0 := by rw [← hh, Bd.state]; rfl
  have N0 := Fr.nil n0
  show Done p e below s (Qrm8 Z a1 d3 xs h0 n0) ({ frames := 0, cells := 0, slots := 0, locals := 0 } : Room).cells ({ frames := 0, cells := 0, slots := 0, locals := 0 } : Room).slots (s₁.setTop (entryFrame m #[(.ref a1)] 8))
  refine Done.step (fun t k => castTop (ef_8 m a1) k) ?_
  show Done p e below s _ _ _ (s₁.setTop (mkF m 0 #[.val (.ref a1), .unset, .unset, .unset, .unset, .unset, .unset, .unset] []))
  refine Done.step (fun t k => XS.lconst X0.here hx rfl (hb hby d8_0) k) ?_
  show Done p e below s _ _ _ (s₁.setTop (mkF m 1 #[.val (.ref a1), .unset, .unset, .unset, .unset, .unset, .unset, .unset] [(.long (0 : Int64))]))
  refine Done.step (fun t k => XS.lstoreN X0.here hx rfl (hb hby d8_1) rfl (l' := #[.val (.ref a1), .val (.long (0 : Int64)), .second, .unset, .unset, .unset, .unset, .unset]) rfl k) ?_
  show Done p e below s _ _ _ (s₁.setTop (mkF m 2 #[.val (.ref a1), .val (.long (0 : Int64)), .second, .unset, .unset, .unset, .unset, .unset] []))
  refine Done.step (fun t k => XS.aloadN X0.here hx rfl (hb hby d8_2) rfl rfl k) ?_
  show Done p e below s _ _ _ (s₁.setTop (mkF m 3 #[.val (.ref a1), .val (.long (0 : Int64)), .second, .unset, .unset, .unset, .unset, .unset] [(.ref a1)]))
  obtain ⟨T101, X101, e101, st101⟩ := getF X0 hx hZ hown (host := "") (Or.inl (hw _ (List.mem_of_getElem? (i := 72) rfl))) Via.refl e0 Fd (g := (mkF m 3 #[.val (.ref a1), .val (.long (0 : Int64)), .second, .unset, .unset, .unset, .unset, .unset] [(.ref a1)])) rfl rfl (hb hby d8_3)
  refine Done.step st101 ?_
  show Done p e below s _ _ _ (T101.setTop (mkF m 6 #[.val (.ref a1), .val (.long (0 : Int64)), .second, .unset, .unset, .unset, .unset, .unset] [(.ref d3)]))
  refine Done.step (fun t k => XS.astoreN X101.here hx rfl (hb hby d8_6) rfl rfl (l' := #[.val (.ref a1), .val (.long (0 : Int64)), .second, .val (.ref d3), .unset, .unset, .unset, .unset]) rfl k) ?_
  show Done p e below s _ _ _ (T101.setTop (mkF m 7 #[.val (.ref a1), .val (.long (0 : Int64)), .second, .val (.ref d3), .unset, .unset, .unset, .unset] []))
  refine Done.step (fun t k => XS.aloadN X101.here hx rfl (hb hby d8_7) rfl rfl k) ?_
  show Done p e below s _ _ _ (T101.setTop (mkF m 8 #[.val (.ref a1), .val (.long (0 : Int64)), .second, .val (.ref d3), .unset, .unset, .unset, .unset] [(.ref d3)]))
  refine Done.step (lenA X101 hx hZ e101 A3 (n := xs.length.toInt32) (by rw [List.length_map]) (g := (mkF m 8 #[.val (.ref a1), .val (.long (0 : Int64)), .second, .val (.ref d3), .unset, .unset, .unset, .unset] [(.ref d3)])) rfl rfl (hb hby d8_8)) ?_
  show Done p e below s _ _ _ (T101.setTop (mkF m 9 #[.val (.ref a1), .val (.long (0 : Int64)), .second, .val (.ref d3), .unset, .unset, .unset, .unset] [(.int xs.length.toInt32)]))
  refine Done.step (fun t k => XS.istore X101.here hx rfl (hb hby d8_9) rfl (l' := #[.val (.ref a1), .val (.long (0 : Int64)), .second, .val (.ref d3), .val (.int xs.length.toInt32), .unset, .unset, .unset]) rfl k) ?_
  show Done p e below s _ _ _ (T101.setTop (mkF m 11 #[.val (.ref a1), .val (.long (0 : Int64)), .second, .val (.ref d3), .val (.int xs.length.toInt32), .unset, .unset, .unset] []))
  refine Done.step (fun t k => XS.iconst X101.here hx rfl (hb hby d8_11) k) ?_
  show Done p e below s _ _ _ (T101.setTop (mkF m 12 #[.val (.ref a1), .val (.long (0 : Int64)), .second, .val (.ref d3), .val (.int xs.length.toInt32), .unset, .unset, .unset] [(.int (0 : Int32))]))
  refine Done.step (fun t k => XS.istore X101.here hx rfl (hb hby d8_12) rfl (l' := #[.val (.ref a1), .val (.long (0 : Int64)), .second, .val (.ref d3), .val (.int xs.length.toInt32), .val (.int (0 : Int32)), .unset, .unset]) rfl k) ?_
  show Done p e below s _ _ _ (T101.setTop (mkF m 14 #[.val (.ref a1), .val (.long (0 : Int64)), .second, .val (.ref d3), .val (.int xs.length.toInt32), .val (.int (0 : Int32)), .unset, .unset] []))
  have hl3 : xs.length.toInt32.toInt = xs.length := len_toInt (by omega)
  exact lp14 a1 d3 xs.length.toInt32 xs hx hZ hw hby hml hown hlk hret hnm A3 hl3 (xs.length + 1)  T101 _ (0 : Int64) (0 : Int32) .unset .unset X101 N0 Z0 e101 (Or.inl ⟨rfl, rfl⟩) (by rw [hl3]; show ((xs.length : Int) - 0).toNat < _; omega) (by decide) (by rw [show (0 : Int32).toNatClampNeg = 0 from rfl, List.drop_zero])
theorem own_n (p x : Int32) (h : ((p &&& (2147483647 : Int32)) % (5 : Int32)) = x) : x = (0 : Int32) ∨ x = (1 : Int32) ∨ x = (2 : Int32) ∨ x = (3 : Int32) ∨ x = (4 : Int32) := by
  have m := c_mask p (2147483647 : Int32) 31 (by decide) (by decide)
  have r := (c_irem (p &&& (2147483647 : Int32)) (5 : Int32) 5 (by decide)).1 (by omega)
  rw [h] at r
  simp only [← Int32.toInt_inj, show (0 : Int32).toInt = 0 from rfl, show (1 : Int32).toInt = 1 from rfl, show (2 : Int32).toInt = 2 from rfl, show (3 : Int32).toInt = 3 from rfl, show (4 : Int32).toInt = 4 from rfl]
  omega
theorem pn_0 : plainName "com/example/stowage/stowage/solve/HostLoadFreeDiskSpacePinLaw" = true := by first | (simp [plainName, overriddenIn]; done) | decide +kernel
theorem ef_0 (m : MethodId) (p1 : Int32) (q2 : Int64) (q3 : Int64) (q4 : Int64) (q5 : Int64) : entryFrame m #[(.int p1), (.long q2), (.long q3), (.long q4), (.long q5)] maxLocals = mkF m 0 #[.val (.int p1), .val (.long q2), .second, .val (.long q3), .second, .val (.long q4), .second, .val (.long q5), .second, .unset, .unset, .unset, .unset, .unset, .unset] [] := by first | (simp [entryFrame, mkF, argsToLocals, Value.category, maxLocals]; done) | rfl
def Qrm0 (Z : State) (p1 : Int32) (q2 : Int64) (q3 : Int64) (q4 : Int64) (q5 : Int64) (dea : Addr) (h0 : Heap) (n0 : Nat) : Option Value → Heap → List Loc → Prop := fun v h L => v = some (.int 1) ∧ Fr n0 L
set_option maxRecDepth 65536 in
set_option maxHeartbeats 40000000 in
theorem rm0 (l : Launch) (Z : State) (a0 : Array Value) (hw : ∀ d ∈ tables_1, d.before a0 Z = true) (ws : List Jvm.Cond) (p1 : Int32) (q2 : Int64) (q3 : Int64) (q4 : Int64) (q5 : Int64) (dea : Addr) (h0 : Heap) (n0 : Nat) (Z0 : n0 ≤ h0.size) (Sde : Sta Z h0 "java/util/ArrayList" "DEFAULTCAPACITY_EMPTY_ELEMENTDATA" "[Ljava/lang/Object;" (.ref dea)) :
    MetFree l x (head1 (Jvm.Cond.code x code maxLocals ret :: ws) room_1) (fun a U => a = #[(.int p1), (.long q2), (.long q3), (.long q4), (.long q5)] ∧ Z.Warmed39 U.vm ∧ U.heap = h0) (fun _ _ _ _ _ => True) (fun _ U o U' => ∃ v L, o = .returned v ∧ Qrm0 Z p1 q2 q3 q4 q5 dea h0 n0 v U'.heap L ∧ FrameEnd U o U' L room_1.cells room_1.slots) := by
  refine MetFree.of_bodySF (plainFor_of_name pn_0) hisR ?_
  intro p e s m args below meth c s₁ Bd hml0 hP hK
  obtain ⟨rfl, hZ, hh⟩ := hP
  have hx := Bd.exec
  have hby := Bd.bytes
  have hml : c.maxLocals = 15 := hml0
  have hown : s.vm.findClass "com/example/stowage/stowage/solve/HostLoadFreeDiskSpacePinLaw" = some m.cls := findClass_of_methodNamed Bd.named
  have hnm := (name_of_methodNamed Bd.named Bd.method).1
  have hlk : meth.locks = false := BodyLoose.notSynchronized Bd
  have hret := Bd.returns
  have X0 : Stand p l e room_1 s m #[(.int p1), (.long q2), (.long q3), (.long q4), (.long q5)] below meth c s₁ [] 0 0 := Stand.of_body Bd
  have e0 : s₁.heap = h0 := by rw [← hh, Bd.state]; rfl
  have N0 := Fr.nil n0
  show Done p e below s (Qrm0 Z p1 q2 q3 q4 q5 dea h0 n0) room_1.cells room_1.slots (s₁.setTop (entryFrame m #[(.int p1), (.long q2), (.long q3), (.long q4), (.long q5)] maxLocals))
  refine Done.step (fun t k => castTop (ef_0 m p1 q2 q3 q4 q5) k) ?_
  show Done p e below s _ _ _ (s₁.setTop (mkF m 0 #[.val (.int p1), .val (.long q2), .second, .val (.long q3), .second, .val (.long q4), .second, .val (.long q5), .second, .unset, .unset, .unset, .unset, .unset, .unset] []))
  refine Done.step (fun t k => XS.iloadN X0.here hx rfl (hb hby at_0) rfl k) ?_
  show Done p e below s _ _ _ (s₁.setTop (mkF m 1 #[.val (.int p1), .val (.long q2), .second, .val (.long q3), .second, .val (.long q4), .second, .val (.long q5), .second, .unset, .unset, .unset, .unset, .unset, .unset] [(.int p1)]))
  refine Done.step (X0.ldcInt hx hown (mvT hZ (hw _ (List.mem_of_getElem? (i := 0) rfl))) (g := (mkF m 1 #[.val (.int p1), .val (.long q2), .second, .val (.long q3), .second, .val (.long q4), .second, .val (.long q5), .second, .unset, .unset, .unset, .unset, .unset, .unset] [(.int p1)])) rfl (hb hby at_1)) ?_
  show Done p e below s _ _ _ (s₁.setTop (mkF m 3 #[.val (.int p1), .val (.long q2), .second, .val (.long q3), .second, .val (.long q4), .second, .val (.long q5), .second, .unset, .unset, .unset, .unset, .unset, .unset] [(.int (2147483647 : Int32)), (.int p1)]))
  refine Done.step (fun t k => XS.iand X0.here hx rfl (hb hby at_3) rfl k) ?_
  show Done p e below s _ _ _ (s₁.setTop (mkF m 4 #[.val (.int p1), .val (.long q2), .second, .val (.long q3), .second, .val (.long q4), .second, .val (.long q5), .second, .unset, .unset, .unset, .unset, .unset, .unset] [(.int (p1 &&& (2147483647 : Int32)))]))
  refine Done.step (fun t k => XS.iconst X0.here hx rfl (hb hby at_4) k) ?_
  show Done p e below s _ _ _ (s₁.setTop (mkF m 5 #[.val (.int p1), .val (.long q2), .second, .val (.long q3), .second, .val (.long q4), .second, .val (.long q5), .second, .unset, .unset, .unset, .unset, .unset, .unset] [(.int (5 : Int32)), (.int (p1 &&& (2147483647 : Int32)))]))
  refine Done.step (fun t k => iremM X0 hx rfl (hb hby at_5) rfl (by decide) k) ?_
  show Done p e below s _ _ _ (s₁.setTop (mkF m 6 #[.val (.int p1), .val (.long q2), .second, .val (.long q3), .second, .val (.long q4), .second, .val (.long q5), .second, .unset, .unset, .unset, .unset, .unset, .unset] [(.int ((p1 &&& (2147483647 : Int32)) % (5 : Int32)))]))
  generalize dx101 : ((p1 &&& (2147483647 : Int32)) % (5 : Int32)) = x101
  show Done p e below s _ _ _ (s₁.setTop (mkF m 6 #[.val (.int p1), .val (.long q2), .second, .val (.long q3), .second, .val (.long q4), .second, .val (.long q5), .second, .unset, .unset, .unset, .unset, .unset, .unset] [(.int x101)]))
  refine Done.step (fun t k => XS.istore X0.here hx rfl (hb hby at_6) rfl (l' := #[.val (.int p1), .val (.long q2), .second, .val (.long q3), .second, .val (.long q4), .second, .val (.long q5), .second, .val (.int x101), .unset, .unset, .unset, .unset, .unset]) rfl k) ?_
  show Done p e below s _ _ _ (s₁.setTop (mkF m 8 #[.val (.int p1), .val (.long q2), .second, .val (.long q3), .second, .val (.long q4), .second, .val (.long q5), .second, .val (.int x101), .unset, .unset, .unset, .unset, .unset] []))
  obtain rfl | rfl | rfl | rfl | rfl := own_n p1 x101 dx101
  · show Done p e below s _ _ _ (s₁.setTop (mkF m 8 #[.val (.int p1), .val (.long q2), .second, .val (.long q3), .second, .val (.long q4), .second, .val (.long q5), .second, .val (.int (0 : Int32)), .unset, .unset, .unset, .unset, .unset] []))
    refine Done.step (fun t k => XS.iload X0.here hx rfl (hb hby at_8) rfl k) ?_
    show Done p e below s _ _ _ (s₁.setTop (mkF m 10 #[.val (.int p1), .val (.long q2), .second, .val (.long q3), .second, .val (.long q4), .second, .val (.long q5), .second, .val (.int (0 : Int32)), .unset, .unset, .unset, .unset, .unset] [(.int (0 : Int32))]))
    obtain ⟨T102, h102, k102, X102, e102, E102, A102, B102, st102⟩ := newPE X0 hx hZ (hw _ (List.mem_of_getElem? (i := 1) rfl)) e0 (g := (mkF m 10 #[.val (.int p1), .val (.long q2), .second, .val (.long q3), .second, .val (.long q4), .second, .val (.long q5), .second, .val (.int (0 : Int32)), .unset, .unset, .unset, .unset, .unset] [(.int (0 : Int32))])) rfl (hb hby at_10) rfl (by decide) (cap := 0) (by decide) (by decide) (by decide) (by decide) (ad := "[J") (by decide)
    obtain ⟨b102, gq102⟩ : ∃ z, z = h0.size := ⟨_, rfl⟩
    rw [← gq102] at A102 B102 st102
    have f103 : Sta Z h102 "java/util/ArrayList" "DEFAULTCAPACITY_EMPTY_ELEMENTDATA" "[Ljava/lang/Object;" (.ref dea) := Sde.ext E102
    have g_b102 : n0 ≤ b102 := Nat.le_trans Z0 (Nat.le_of_eq gq102.symm)
    have Z102 : n0 ≤ h102.size := Nat.le_trans Z0 E102.1
    have f104 : Ax Z h102 b102 .long [] := Ax.new (ty := .long) (i := 0) A102 (by decide)
    refine Done.step st102 ?_
    show Done p e below s _ _ _ (T102.setTop (mkF m 12 #[.val (.int p1), .val (.long q2), .second, .val (.long q3), .second, .val (.long q4), .second, .val (.long q5), .second, .val (.int (0 : Int32)), .unset, .unset, .unset, .unset, .unset] [(.ref b102)]))
    refine Done.step (fun t k => XS.astore X102.here hx rfl (hb hby at_12) rfl rfl (l' := #[.val (.int p1), .val (.long q2), .second, .val (.long q3), .second, .val (.long q4), .second, .val (.long q5), .second, .val (.int (0 : Int32)), .val (.ref b102), .unset, .unset, .unset, .unset]) rfl k) ?_
    show Done p e below s _ _ _ (T102.setTop (mkF m 14 #[.val (.int p1), .val (.long q2), .second, .val (.long q3), .second, .val (.long q4), .second, .val (.long q5), .second, .val (.int (0 : Int32)), .val (.ref b102), .unset, .unset, .unset, .unset] []))
    refine Done.step (fun t k => XS.iload X102.here hx rfl (hb hby at_14) rfl k) ?_
    show Done p e below s _ _ _ (T102.setTop (mkF m 16 #[.val (.int p1), .val (.long q2), .second, .val (.long q3), .second, .val (.long q4), .second, .val (.long q5), .second, .val (.int (0 : Int32)), .val (.ref b102), .unset, .unset, .unset, .unset] [(.int (0 : Int32))]))
    refine Done.step (fun t k => XS.ifYes X102.here hx rfl (pc0 := 16) (pc' := 24) rfl (hb hby at_16) rfl ((if0 _ _).trans (flt (by decide)).2.2.2) (by decide) (by decide) k) ?_
    show Done p e below s _ _ _ (T102.setTop (mkF m 24 #[.val (.int p1), .val (.long q2), .second, .val (.long q3), .second, .val (.long q4), .second, .val (.long q5), .second, .val (.int (0 : Int32)), .val (.ref b102), .unset, .unset, .unset, .unset] []))
    refine Done.step (fun t k => XS.iload X102.here hx rfl (hb hby at_24) rfl k) ?_
    show Done p e below s _ _ _ (T102.setTop (mkF m 26 #[.val (.int p1), .val (.long q2), .second, .val (.long q3), .second, .val (.long q4), .second, .val (.long q5), .second, .val (.int (0 : Int32)), .val (.ref b102), .unset, .unset, .unset, .unset] [(.int (0 : Int32))]))
    refine Done.step (fun t k => XS.iconst X102.here hx rfl (hb hby at_26) k) ?_
    show Done p e below s _ _ _ (T102.setTop (mkF m 27 #[.val (.int p1), .val (.long q2), .second, .val (.long q3), .second, .val (.long q4), .second, .val (.long q5), .second, .val (.int (0 : Int32)), .val (.ref b102), .unset, .unset, .unset, .unset] [(.int (1 : Int32)), (.int (0 : Int32))]))
    refine Done.step (fun t k => XS.icmpYes X102.here hx rfl (pc0 := 27) (pc' := 35) rfl (hb hby at_27) rfl (flt (by decide)).2.2.2 (by decide) (by decide) k) ?_
    show Done p e below s _ _ _ (T102.setTop (mkF m 35 #[.val (.int p1), .val (.long q2), .second, .val (.long q3), .second, .val (.long q4), .second, .val (.long q5), .second, .val (.int (0 : Int32)), .val (.ref b102), .unset, .unset, .unset, .unset] []))
    refine Done.step (fun t k => XS.iload X102.here hx rfl (hb hby at_35) rfl k) ?_
    show Done p e below s _ _ _ (T102.setTop (mkF m 37 #[.val (.int p1), .val (.long q2), .second, .val (.long q3), .second, .val (.long q4), .second, .val (.long q5), .second, .val (.int (0 : Int32)), .val (.ref b102), .unset, .unset, .unset, .unset] [(.int (0 : Int32))]))
    refine Done.step (fun t k => XS.iconst X102.here hx rfl (hb hby at_37) k) ?_
    show Done p e below s _ _ _ (T102.setTop (mkF m 38 #[.val (.int p1), .val (.long q2), .second, .val (.long q3), .second, .val (.long q4), .second, .val (.long q5), .second, .val (.int (0 : Int32)), .val (.ref b102), .unset, .unset, .unset, .unset] [(.int (2 : Int32)), (.int (0 : Int32))]))
    refine Done.step (fun t k => XS.icmpYes X102.here hx rfl (pc0 := 38) (pc' := 47) rfl (hb hby at_38) rfl (flt (by decide)).2.2.2 (by decide) (by decide) k) ?_
    show Done p e below s _ _ _ (T102.setTop (mkF m 47 #[.val (.int p1), .val (.long q2), .second, .val (.long q3), .second, .val (.long q4), .second, .val (.long q5), .second, .val (.int (0 : Int32)), .val (.ref b102), .unset, .unset, .unset, .unset] []))
    refine Done.step (fun t k => XS.iload X102.here hx rfl (hb hby at_47) rfl k) ?_
    show Done p e below s _ _ _ (T102.setTop (mkF m 49 #[.val (.int p1), .val (.long q2), .second, .val (.long q3), .second, .val (.long q4), .second, .val (.long q5), .second, .val (.int (0 : Int32)), .val (.ref b102), .unset, .unset, .unset, .unset] [(.int (0 : Int32))]))
    refine Done.step (fun t k => XS.iconst X102.here hx rfl (hb hby at_49) k) ?_
    show Done p e below s _ _ _ (T102.setTop (mkF m 50 #[.val (.int p1), .val (.long q2), .second, .val (.long q3), .second, .val (.long q4), .second, .val (.long q5), .second, .val (.int (0 : Int32)), .val (.ref b102), .unset, .unset, .unset, .unset] [(.int (3 : Int32)), (.int (0 : Int32))]))
    refine Done.step (fun t k => XS.icmpYes X102.here hx rfl (pc0 := 50) (pc' := 59) rfl (hb hby at_50) rfl (flt (by decide)).2.2.2 (by decide) (by decide) k) ?_
    show Done p e below s _ _ _ (T102.setTop (mkF m 59 #[.val (.int p1), .val (.long q2), .second, .val (.long q3), .second, .val (.long q4), .second, .val (.long q5), .second, .val (.int (0 : Int32)), .val (.ref b102), .unset, .unset, .unset, .unset] []))
    refine Done.step (fun t k => XS.iconst X102.here hx rfl (hb hby at_59) k) ?_
    show Done p e below s _ _ _ (T102.setTop (mkF m 60 #[.val (.int p1), .val (.long q2), .second, .val (.long q3), .second, .val (.long q4), .second, .val (.long q5), .second, .val (.int (0 : Int32)), .val (.ref b102), .unset, .unset, .unset, .unset] [(.int (1 : Int32))]))
    obtain ⟨T105, h105, k105, X105, e105, E105, A105, B105, st105⟩ := newPE X102 hx hZ (hw _ (List.mem_of_getElem? (i := 1) rfl)) e102 (g := (mkF m 60 #[.val (.int p1), .val (.long q2), .second, .val (.long q3), .second, .val (.long q4), .second, .val (.long q5), .second, .val (.int (0 : Int32)), .val (.ref b102), .unset, .unset, .unset, .unset] [(.int (1 : Int32))])) rfl (hb hby at_60) rfl (by decide) (cap := 1) (by decide) (by decide) (by decide) (by decide) (ad := "[J") (by decide)
    obtain ⟨b105, gq105⟩ : ∃ z, z = h102.size := ⟨_, rfl⟩
    rw [← gq105] at A105 B105 st105
    have ne106 : b102 ≠ b105 := Nat.ne_of_lt (Nat.lt_of_lt_of_le B102.lt (Nat.le_of_eq gq105.symm))
    have f107 : Sta Z h105 "java/util/ArrayList" "DEFAULTCAPACITY_EMPTY_ELEMENTDATA" "[Ljava/lang/Object;" (.ref dea) := f103.ext E105
    have f108 : Exa Z h105 b102 "[J" := B102.ext E105
    have f109 : Ax Z h105 b102 .long [] := f104.ext E105
    have g_b105 : n0 ≤ b105 := Nat.le_trans Z102 (Nat.le_of_eq gq105.symm)
    have Z105 : n0 ≤ h105.size := Nat.le_trans Z102 E105.1
    have f110 : Ax Z h105 b105 .long [(.long (0 : Int64))] := Ax.new (ty := .long) (i := 1) A105 (by decide)
    refine Done.step st105 ?_
    show Done p e below s _ _ _ (T105.setTop (mkF m 62 #[.val (.int p1), .val (.long q2), .second, .val (.long q3), .second, .val (.long q4), .second, .val (.long q5), .second, .val (.int (0 : Int32)), .val (.ref b102), .unset, .unset, .unset, .unset] [(.ref b105)]))
    refine Done.step (fun t k => XS.astore X105.here hx rfl (hb hby at_62) rfl rfl (l' := #[.val (.int p1), .val (.long q2), .second, .val (.long q3), .second, .val (.long q4), .second, .val (.long q5), .second, .val (.int (0 : Int32)), .val (.ref b102), .val (.ref b105), .unset, .unset, .unset]) rfl k) ?_
    show Done p e below s _ _ _ (T105.setTop (mkF m 64 #[.val (.int p1), .val (.long q2), .second, .val (.long q3), .second, .val (.long q4), .second, .val (.long q5), .second, .val (.int (0 : Int32)), .val (.ref b102), .val (.ref b105), .unset, .unset, .unset] []))
    obtain ⟨T111, h111, X111, e111, E111, A111, D111, -, st111⟩ := newO X105 hx hZ hown (hw _ (List.mem_of_getElem? (i := 2) rfl)) (hw _ (List.mem_of_getElem? (i := 3) rfl)) (hw _ (List.mem_of_getElem? (i := 4) rfl)) e105 (g := (mkF m 64 #[.val (.int p1), .val (.long q2), .second, .val (.long q3), .second, .val (.long q4), .second, .val (.long q5), .second, .val (.int (0 : Int32)), .val (.ref b102), .val (.ref b105), .unset, .unset, .unset] [])) rfl (hb hby at_64) (by decide) (by decide)
    obtain ⟨b111, gq111⟩ : ∃ z, z = h105.size := ⟨_, rfl⟩
    rw [← gq111] at A111 D111 st111
    have ne112 : b102 ≠ b111 := Nat.ne_of_lt (Nat.lt_of_lt_of_le f108.lt (Nat.le_of_eq gq111.symm))
    have ne113 : b105 ≠ b111 := Nat.ne_of_lt (Nat.lt_of_lt_of_le B105.lt (Nat.le_of_eq gq111.symm))
    have f114 : Sta Z h111 "java/util/ArrayList" "DEFAULTCAPACITY_EMPTY_ELEMENTDATA" "[Ljava/lang/Object;" (.ref dea) := f107.ext E111
    have f115 : Exa Z h111 b102 "[J" := f108.ext E111
    have f116 : Ax Z h111 b102 .long [] := f109.ext E111
    have f117 : Exa Z h111 b105 "[J" := B105.ext E111
    have f118 : Ax Z h111 b105 .long [(.long (0 : Int64))] := f110.ext E111
    have g_b111 : n0 ≤ b111 := Nat.le_trans Z105 (Nat.le_of_eq gq111.symm)
    have Z111 : n0 ≤ h111.size := Nat.le_trans Z105 E111.1
    have f119 : Fld Z h111 b111 "com/example/stowage/stowage/solve/HostLoad" "vms" "Ljava/util/List;" .null := D111 (Or.inr (hw _ (List.mem_of_getElem? (i := 36) rfl))) (ty := (.object "java/util/List")) (by decide)
    have f120 : Fld Z h111 b111 "com/example/stowage/stowage/solve/HostLoad" "requests" "Ljava/util/List;" .null := D111 (Or.inr (hw _ (List.mem_of_getElem? (i := 38) rfl))) (ty := (.object "java/util/List")) (by decide)
    have f121 : Fld Z h111 b111 "com/example/stowage/stowage/solve/HostLoad" "vmDisks" "Ljava/util/List;" .null := D111 (Or.inr (hw _ (List.mem_of_getElem? (i := 40) rfl))) (ty := (.object "java/util/List")) (by decide)
    have f122 : Fld Z h111 b111 "com/example/stowage/stowage/solve/HostLoad" "ruled" "Ljava/util/Map;" .null := D111 (Or.inr (hw _ (List.mem_of_getElem? (i := 58) rfl))) (ty := (.object "java/util/Map")) (by decide)
    have f123 : Fld Z h111 b111 "com/example/stowage/stowage/solve/HostLoad" "disks" "[J" .null := D111 (Or.inr (hw _ (List.mem_of_getElem? (i := 69) rfl))) (ty := (.array .long)) (by decide)
    have f124 : Fld Z h111 b111 "com/example/stowage/stowage/solve/HostLoad" "free" "[J" .null := D111 (Or.inr (hw _ (List.mem_of_getElem? (i := 71) rfl))) (ty := (.array .long)) (by decide)
    have f125 : Fld Z h111 b111 "com/example/stowage/stowage/solve/HostLoad" "diskFree" "[J" .null := D111 (Or.inr (hw _ (List.mem_of_getElem? (i := 73) rfl))) (ty := (.array .long)) (by decide)
    refine Done.step st111 ?_
    show Done p e below s _ _ _ (T111.setTop (mkF m 67 #[.val (.int p1), .val (.long q2), .second, .val (.long q3), .second, .val (.long q4), .second, .val (.long q5), .second, .val (.int (0 : Int32)), .val (.ref b102), .val (.ref b105), .unset, .unset, .unset] [(.ref b111)]))
    refine Done.step (fun t k => XS.dup X111.here hx rfl (hb hby at_67) rfl rfl k) ?_
    show Done p e below s _ _ _ (T111.setTop (mkF m 68 #[.val (.int p1), .val (.long q2), .second, .val (.long q3), .second, .val (.long q4), .second, .val (.long q5), .second, .val (.int (0 : Int32)), .val (.ref b102), .val (.ref b105), .unset, .unset, .unset] [(.ref b111), (.ref b111)]))
    refine Done.step (fun t k => XS.aload X111.here hx rfl (hb hby at_68) rfl rfl k) ?_
    show Done p e below s _ _ _ (T111.setTop (mkF m 70 #[.val (.int p1), .val (.long q2), .second, .val (.long q3), .second, .val (.long q4), .second, .val (.long q5), .second, .val (.int (0 : Int32)), .val (.ref b102), .val (.ref b105), .unset, .unset, .unset] [(.ref b105), (.ref b111), (.ref b111)]))
    refine Done.step (fun t k => XS.aload X111.here hx rfl (hb hby at_70) rfl rfl k) ?_
    show Done p e below s _ _ _ (T111.setTop (mkF m 72 #[.val (.int p1), .val (.long q2), .second, .val (.long q3), .second, .val (.long q4), .second, .val (.long q5), .second, .val (.int (0 : Int32)), .val (.ref b102), .val (.ref b105), .unset, .unset, .unset] [(.ref b102), (.ref b105), (.ref b111), (.ref b111)]))
    obtain ⟨v126, _, ⟨T126, L126, k126, n126⟩, -, X126, ⟨Lc126, hQ126, l126, y126, z126⟩, st126⟩ := X111.specialBack hx (y := (⟨"com/example/stowage/stowage/solve/HostLoad", "<init>", "([J[J)V"⟩ : MethodName)) rfl hown (mvT hZ (hw _ (List.mem_of_getElem? (i := 5) rfl))) (mvT hZ (hw _ (List.mem_of_getElem? (i := 6) rfl))) (mvT hZ (hw _ (List.mem_of_getElem? (i := 7) rfl))) (by decide) (backOf (W := 1) (rm1 l Z a0 hw [] b111 b105 b102 dea [] h111 n0 Z111 A111 f119 f120 f121 f122 f123 f124 f125 g_b111 f114 f117 f118 f115 f116 (Nat.le_of_ble_eq_true rfl)) hZ (hw _ (List.mem_of_getElem? (i := 7) rfl)) (hw _ (List.mem_of_getElem? (i := 4) rfl)) (by decide) (by decide)) (g := (mkF m 72 #[.val (.int p1), .val (.long q2), .second, .val (.long q3), .second, .val (.long q4), .second, .val (.long q5), .second, .val (.int (0 : Int32)), .val (.ref b102), .val (.ref b105), .unset, .unset, .unset] [(.ref b102), (.ref b105), (.ref b111), (.ref b111)])) rfl (by rw [hml]; rfl) (Steps.refl _) (a := b111) (argsL := [(.ref b105), (.ref b102)]) (rest := [(.ref b111)]) (lenOf pd_1 rfl) rfl (by show 2 * 0 + _ ≤ _; exact Nat.le_of_eq rfl) (hb hby at_72) (fun _ _ => ⟨rfl, e111, (by decide : 3 + 7 ≤ _), (by decide : 9 + 26 ≤ _)⟩)
    dsimp only [Pt.U, Pt.locs, Pt.cells, Pt.slots] at X126 l126 y126 z126 st126 hQ126
    subst l126 y126 z126
    refine Done.far st126 ?_
    obtain ⟨rfl, N126q, K126q, x126, d126, y126, z126v, w126⟩ := hQ126
    have N126 := Fr.app N0 N126q
    have ne127 : b102 ≠ d126 := Nat.ne_of_lt (Nat.lt_of_lt_of_le f115.lt w126)
    have ne128 : b105 ≠ d126 := Nat.ne_of_lt (Nat.lt_of_lt_of_le f117.lt w126)
    have ne129 : b111 ≠ d126 := Nat.ne_of_lt (Nat.lt_of_lt_of_le A111.lt w126)
    have f130 : Sta Z T126.heap "java/util/ArrayList" "DEFAULTCAPACITY_EMPTY_ELEMENTDATA" "[Ljava/lang/Object;" (.ref dea) := own_stakeep f114 K126q (allS (own_unst A111) all0)
    have f131 : Exa Z T126.heap b102 "[J" := f115.keep K126q
    have f132 : Ax Z T126.heap b102 .long [] := f116.keep K126q (ninS ne112 nin0)
    have f133 : Exa Z T126.heap b105 "[J" := f117.keep K126q
    have f134 : Ax Z T126.heap b105 .long [(.long (0 : Int64))] := f118.keep K126q (ninS ne113 nin0)
    have f135 : Exa Z T126.heap b111 "com/example/stowage/stowage/solve/HostLoad" := A111.keep K126q
    have Zk126 : n0 ≤ T126.heap.size := Nat.le_trans Z111 K126q.1
    show Done p e below s _ _ _ (T126.setTop (mkF m 75 #[.val (.int p1), .val (.long q2), .second, .val (.long q3), .second, .val (.long q4), .second, .val (.long q5), .second, .val (.int (0 : Int32)), .val (.ref b102), .val (.ref b105), .unset, .unset, .unset] [(.ref b111)]))
    refine Done.step (fun t k => XS.astore X126.here hx rfl (hb hby at_75) rfl rfl (l' := #[.val (.int p1), .val (.long q2), .second, .val (.long q3), .second, .val (.long q4), .second, .val (.long q5), .second, .val (.int (0 : Int32)), .val (.ref b102), .val (.ref b105), .val (.ref b111), .unset, .unset]) rfl k) ?_
    show Done p e below s _ _ _ (T126.setTop (mkF m 77 #[.val (.int p1), .val (.long q2), .second, .val (.long q3), .second, .val (.long q4), .second, .val (.long q5), .second, .val (.int (0 : Int32)), .val (.ref b102), .val (.ref b105), .val (.ref b111), .unset, .unset] []))
    refine Done.step (fun t k => XS.iload X126.here hx rfl (hb hby at_77) rfl k) ?_
    show Done p e below s _ _ _ (T126.setTop (mkF m 79 #[.val (.int p1), .val (.long q2), .second, .val (.long q3), .second, .val (.long q4), .second, .val (.long q5), .second, .val (.int (0 : Int32)), .val (.ref b102), .val (.ref b105), .val (.ref b111), .unset, .unset] [(.int (0 : Int32))]))
    refine Done.step (fun t k => XS.ifYes X126.here hx rfl (pc0 := 79) (pc' := 89) rfl (hb hby at_79) rfl ((if0 _ _).trans (flt (by decide)).2.2.2) (by decide) (by decide) k) ?_
    show Done p e below s _ _ _ (T126.setTop (mkF m 89 #[.val (.int p1), .val (.long q2), .second, .val (.long q3), .second, .val (.long q4), .second, .val (.long q5), .second, .val (.int (0 : Int32)), .val (.ref b102), .val (.ref b105), .val (.ref b111), .unset, .unset] []))
    refine Done.step (fun t k => XS.iload X126.here hx rfl (hb hby at_89) rfl k) ?_
    show Done p e below s _ _ _ (T126.setTop (mkF m 91 #[.val (.int p1), .val (.long q2), .second, .val (.long q3), .second, .val (.long q4), .second, .val (.long q5), .second, .val (.int (0 : Int32)), .val (.ref b102), .val (.ref b105), .val (.ref b111), .unset, .unset] [(.int (0 : Int32))]))
    refine Done.step (fun t k => XS.ifYes X126.here hx rfl (pc0 := 91) (pc' := 98) rfl (hb hby at_91) rfl ((if0 _ _).trans (flt (by decide)).2.2.2) (by decide) (by decide) k) ?_
    show Done p e below s _ _ _ (T126.setTop (mkF m 98 #[.val (.int p1), .val (.long q2), .second, .val (.long q3), .second, .val (.long q4), .second, .val (.long q5), .second, .val (.int (0 : Int32)), .val (.ref b102), .val (.ref b105), .val (.ref b111), .unset, .unset] []))
    refine Done.step (fun t k => XS.lconst X126.here hx rfl (hb hby at_98) k) ?_
    show Done p e below s _ _ _ (T126.setTop (mkF m 99 #[.val (.int p1), .val (.long q2), .second, .val (.long q3), .second, .val (.long q4), .second, .val (.long q5), .second, .val (.int (0 : Int32)), .val (.ref b102), .val (.ref b105), .val (.ref b111), .unset, .unset] [(.long (0 : Int64))]))
    refine Done.step (fun t k => XS.iload X126.here hx rfl (hb hby at_99) rfl k) ?_
    show Done p e below s _ _ _ (T126.setTop (mkF m 101 #[.val (.int p1), .val (.long q2), .second, .val (.long q3), .second, .val (.long q4), .second, .val (.long q5), .second, .val (.int (0 : Int32)), .val (.ref b102), .val (.ref b105), .val (.ref b111), .unset, .unset] [(.int (0 : Int32)), (.long (0 : Int64))]))
    refine Done.step (fun t k => XS.iconst X126.here hx rfl (hb hby at_101) k) ?_
    show Done p e below s _ _ _ (T126.setTop (mkF m 102 #[.val (.int p1), .val (.long q2), .second, .val (.long q3), .second, .val (.long q4), .second, .val (.long q5), .second, .val (.int (0 : Int32)), .val (.ref b102), .val (.ref b105), .val (.ref b111), .unset, .unset] [(.int (1 : Int32)), (.int (0 : Int32)), (.long (0 : Int64))]))
    refine Done.step (fun t k => XS.icmpYes X126.here hx rfl (pc0 := 102) (pc' := 109) rfl (hb hby at_102) rfl (flt (by decide)).2.2.2 (by decide) (by decide) k) ?_
    show Done p e below s _ _ _ (T126.setTop (mkF m 109 #[.val (.int p1), .val (.long q2), .second, .val (.long q3), .second, .val (.long q4), .second, .val (.long q5), .second, .val (.int (0 : Int32)), .val (.ref b102), .val (.ref b105), .val (.ref b111), .unset, .unset] [(.long (0 : Int64))]))
    refine Done.step (fun t k => XS.lconst X126.here hx rfl (hb hby at_109) k) ?_
    show Done p e below s _ _ _ (T126.setTop (mkF m 110 #[.val (.int p1), .val (.long q2), .second, .val (.long q3), .second, .val (.long q4), .second, .val (.long q5), .second, .val (.int (0 : Int32)), .val (.ref b102), .val (.ref b105), .val (.ref b111), .unset, .unset] [(.long (0 : Int64)), (.long (0 : Int64))]))
    refine Done.step (fun t k => XS.ladd X126.here hx rfl (hb hby at_110) rfl k) ?_
    show Done p e below s _ _ _ (T126.setTop (mkF m 111 #[.val (.int p1), .val (.long q2), .second, .val (.long q3), .second, .val (.long q4), .second, .val (.long q5), .second, .val (.int (0 : Int32)), .val (.ref b102), .val (.ref b105), .val (.ref b111), .unset, .unset] [(.long ((0 : Int64) + (0 : Int64)))]))
    refine Done.step (fun t k => XS.iload X126.here hx rfl (hb hby at_111) rfl k) ?_
    show Done p e below s _ _ _ (T126.setTop (mkF m 113 #[.val (.int p1), .val (.long q2), .second, .val (.long q3), .second, .val (.long q4), .second, .val (.long q5), .second, .val (.int (0 : Int32)), .val (.ref b102), .val (.ref b105), .val (.ref b111), .unset, .unset] [(.int (0 : Int32)), (.long ((0 : Int64) + (0 : Int64)))]))
    refine Done.step (fun t k => XS.iconst X126.here hx rfl (hb hby at_113) k) ?_
    show Done p e below s _ _ _ (T126.setTop (mkF m 114 #[.val (.int p1), .val (.long q2), .second, .val (.long q3), .second, .val (.long q4), .second, .val (.long q5), .second, .val (.int (0 : Int32)), .val (.ref b102), .val (.ref b105), .val (.ref b111), .unset, .unset] [(.int (2 : Int32)), (.int (0 : Int32)), (.long ((0 : Int64) + (0 : Int64)))]))
    refine Done.step (fun t k => XS.icmpYes X126.here hx rfl (pc0 := 114) (pc' := 122) rfl (hb hby at_114) rfl (flt (by decide)).2.2.2 (by decide) (by decide) k) ?_
    show Done p e below s _ _ _ (T126.setTop (mkF m 122 #[.val (.int p1), .val (.long q2), .second, .val (.long q3), .second, .val (.long q4), .second, .val (.long q5), .second, .val (.int (0 : Int32)), .val (.ref b102), .val (.ref b105), .val (.ref b111), .unset, .unset] [(.long ((0 : Int64) + (0 : Int64)))]))
    refine Done.step (fun t k => XS.lconst X126.here hx rfl (hb hby at_122) k) ?_
    show Done p e below s _ _ _ (T126.setTop (mkF m 123 #[.val (.int p1), .val (.long q2), .second, .val (.long q3), .second, .val (.long q4), .second, .val (.long q5), .second, .val (.int (0 : Int32)), .val (.ref b102), .val (.ref b105), .val (.ref b111), .unset, .unset] [(.long (0 : Int64)), (.long ((0 : Int64) + (0 : Int64)))]))
    refine Done.step (fun t k => XS.ladd X126.here hx rfl (hb hby at_123) rfl k) ?_
    show Done p e below s _ _ _ (T126.setTop (mkF m 124 #[.val (.int p1), .val (.long q2), .second, .val (.long q3), .second, .val (.long q4), .second, .val (.long q5), .second, .val (.int (0 : Int32)), .val (.ref b102), .val (.ref b105), .val (.ref b111), .unset, .unset] [(.long (((0 : Int64) + (0 : Int64)) + (0 : Int64)))]))
    refine Done.step (fun t k => XS.iload X126.here hx rfl (hb hby at_124) rfl k) ?_
    show Done p e below s _ _ _ (T126.setTop (mkF m 126 #[.val (.int p1), .val (.long q2), .second, .val (.long q3), .second, .val (.long q4), .second, .val (.long q5), .second, .val (.int (0 : Int32)), .val (.ref b102), .val (.ref b105), .val (.ref b111), .unset, .unset] [(.int (0 : Int32)), (.long (((0 : Int64) + (0 : Int64)) + (0 : Int64)))]))
    refine Done.step (fun t k => XS.iconst X126.here hx rfl (hb hby at_126) k) ?_
    show Done p e below s _ _ _ (T126.setTop (mkF m 127 #[.val (.int p1), .val (.long q2), .second, .val (.long q3), .second, .val (.long q4), .second, .val (.long q5), .second, .val (.int (0 : Int32)), .val (.ref b102), .val (.ref b105), .val (.ref b111), .unset, .unset] [(.int (3 : Int32)), (.int (0 : Int32)), (.long (((0 : Int64) + (0 : Int64)) + (0 : Int64)))]))
    refine Done.step (fun t k => XS.icmpYes X126.here hx rfl (pc0 := 127) (pc' := 135) rfl (hb hby at_127) rfl (flt (by decide)).2.2.2 (by decide) (by decide) k) ?_
    show Done p e below s _ _ _ (T126.setTop (mkF m 135 #[.val (.int p1), .val (.long q2), .second, .val (.long q3), .second, .val (.long q4), .second, .val (.long q5), .second, .val (.int (0 : Int32)), .val (.ref b102), .val (.ref b105), .val (.ref b111), .unset, .unset] [(.long (((0 : Int64) + (0 : Int64)) + (0 : Int64)))]))
    refine Done.step (fun t k => XS.lconst X126.here hx rfl (hb hby at_135) k) ?_
    show Done p e below s _ _ _ (T126.setTop (mkF m 136 #[.val (.int p1), .val (.long q2), .second, .val (.long q3), .second, .val (.long q4), .second, .val (.long q5), .second, .val (.int (0 : Int32)), .val (.ref b102), .val (.ref b105), .val (.ref b111), .unset, .unset] [(.long (0 : Int64)), (.long (((0 : Int64) + (0 : Int64)) + (0 : Int64)))]))
    refine Done.step (fun t k => XS.ladd X126.here hx rfl (hb hby at_136) rfl k) ?_
    show Done p e below s _ _ _ (T126.setTop (mkF m 137 #[.val (.int p1), .val (.long q2), .second, .val (.long q3), .second, .val (.long q4), .second, .val (.long q5), .second, .val (.int (0 : Int32)), .val (.ref b102), .val (.ref b105), .val (.ref b111), .unset, .unset] [(.long ((((0 : Int64) + (0 : Int64)) + (0 : Int64)) + (0 : Int64)))]))
    refine Done.step (fun t k => XS.lstore X126.here hx rfl (hb hby at_137) rfl (l' := #[.val (.int p1), .val (.long q2), .second, .val (.long q3), .second, .val (.long q4), .second, .val (.long q5), .second, .val (.int (0 : Int32)), .val (.ref b102), .val (.ref b105), .val (.ref b111), .val (.long ((((0 : Int64) + (0 : Int64)) + (0 : Int64)) + (0 : Int64))), .second]) rfl k) ?_
    show Done p e below s _ _ _ (T126.setTop (mkF m 139 #[.val (.int p1), .val (.long q2), .second, .val (.long q3), .second, .val (.long q4), .second, .val (.long q5), .second, .val (.int (0 : Int32)), .val (.ref b102), .val (.ref b105), .val (.ref b111), .val (.long ((((0 : Int64) + (0 : Int64)) + (0 : Int64)) + (0 : Int64))), .second] []))
    refine Done.step (fun t k => XS.aload X126.here hx rfl (hb hby at_139) rfl rfl k) ?_
    show Done p e below s _ _ _ (T126.setTop (mkF m 141 #[.val (.int p1), .val (.long q2), .second, .val (.long q3), .second, .val (.long q4), .second, .val (.long q5), .second, .val (.int (0 : Int32)), .val (.ref b102), .val (.ref b105), .val (.ref b111), .val (.long ((((0 : Int64) + (0 : Int64)) + (0 : Int64)) + (0 : Int64))), .second] [(.ref b111)]))
    obtain ⟨cq136, kq136, q136a, q136b, q136c⟩ := isOf hZ rfl f135
    obtain ⟨v136, _, ⟨T136, L136, k136, n136⟩, -, X136, ⟨Lc136, hQ136, l136, y136, z136⟩, st136⟩ := X126.virtualBack hx (y := (⟨"com/example/stowage/stowage/solve/HostLoad", "freeDiskSpace", "()J"⟩ : MethodName)) (z := (⟨"com/example/stowage/stowage/solve/HostLoad", "freeDiskSpace", "()J"⟩ : MethodName)) hown (mvT hZ (hw _ (List.mem_of_getElem? (i := 74) rfl))) (mvT hZ (hw _ (List.mem_of_getElem? (i := 75) rfl))) (notFace_of_selects (args := #[]) (mvT hZ (hw _ (List.mem_of_getElem? (i := 77) rfl)))) (mvT hZ (hw _ (List.mem_of_getElem? (i := 77) rfl))) (mvT hZ (hw _ (List.mem_of_getElem? (i := 76) rfl))) (by decide) (backOf (W := 0) (rm8 l Z a0 hw [] b111 d126 [] T126.heap n0 Zk126 y126 z126v (Nat.le_of_ble_eq_true rfl)) hZ (hw _ (List.mem_of_getElem? (i := 78) rfl)) (hw _ (List.mem_of_getElem? (i := 4) rfl)) (by decide) (by decide)) q136a q136c (g := (mkF m 141 #[.val (.int p1), .val (.long q2), .second, .val (.long q3), .second, .val (.long q4), .second, .val (.long q5), .second, .val (.int (0 : Int32)), .val (.ref b102), .val (.ref b105), .val (.ref b111), .val (.long ((((0 : Int64) + (0 : Int64)) + (0 : Int64)) + (0 : Int64))), .second] [(.ref b111)])) rfl (by rw [hml]; rfl) (Steps.refl _) (argsL := []) (rest := []) (lenOf pd_2 rfl) rfl (by show 2 * 0 + _ ≤ _; exact Nat.le_of_eq rfl) (hb hby at_141) (fun _ _ => ⟨rfl, rfl, (by decide : 10 + 0 ≤ _), (by decide : 35 + 0 ≤ _)⟩)
    dsimp only [Pt.U, Pt.locs, Pt.cells, Pt.slots] at X136 l136 y136 z136 st136 hQ136
    subst l136 y136 z136
    refine Done.far st136 ?_
    obtain ⟨rfl, N136q, e136⟩ := hQ136
    have N136 := Fr.app N126 N136q
    show Done p e below s _ _ _ (T136.setTop (mkF m 144 #[.val (.int p1), .val (.long q2), .second, .val (.long q3), .second, .val (.long q4), .second, .val (.long q5), .second, .val (.int (0 : Int32)), .val (.ref b102), .val (.ref b105), .val (.ref b111), .val (.long ((((0 : Int64) + (0 : Int64)) + (0 : Int64)) + (0 : Int64))), .second] [(.long (List.foldl (· + ·) (0 : Int64) []))]))
    refine Done.step (fun t k => XS.lload X136.here hx rfl (hb hby at_144) rfl k) ?_
    show Done p e below s _ _ _ (T136.setTop (mkF m 146 #[.val (.int p1), .val (.long q2), .second, .val (.long q3), .second, .val (.long q4), .second, .val (.long q5), .second, .val (.int (0 : Int32)), .val (.ref b102), .val (.ref b105), .val (.ref b111), .val (.long ((((0 : Int64) + (0 : Int64)) + (0 : Int64)) + (0 : Int64))), .second] [(.long ((((0 : Int64) + (0 : Int64)) + (0 : Int64)) + (0 : Int64))), (.long (List.foldl (· + ·) (0 : Int64) []))]))
    refine Done.step (fun t k => XS.lcmp X136.here hx rfl (hb hby at_146) rfl k) ?_
    show Done p e below s _ _ _ (T136.setTop (mkF m 147 #[.val (.int p1), .val (.long q2), .second, .val (.long q3), .second, .val (.long q4), .second, .val (.long q5), .second, .val (.int (0 : Int32)), .val (.ref b102), .val (.ref b105), .val (.ref b111), .val (.long ((((0 : Int64) + (0 : Int64)) + (0 : Int64)) + (0 : Int64))), .second] [(.int (lcmpW (List.foldl (· + ·) (0 : Int64) []) ((((0 : Int64) + (0 : Int64)) + (0 : Int64)) + (0 : Int64))))]))
    refine Done.step (fun t k => XS.ifNo X136.here hx rfl (hb hby at_147) rfl ((if0 _ _).trans (teq ((lw_eq _ _).mpr (show (List.foldl (· + ·) (0 : Int64) []) = ((((0 : Int64) + (0 : Int64)) + (0 : Int64)) + (0 : Int64)) from (by simp [List.foldl])))).2) k) ?_
    show Done p e below s _ _ _ (T136.setTop (mkF m 150 #[.val (.int p1), .val (.long q2), .second, .val (.long q3), .second, .val (.long q4), .second, .val (.long q5), .second, .val (.int (0 : Int32)), .val (.ref b102), .val (.ref b105), .val (.ref b111), .val (.long ((((0 : Int64) + (0 : Int64)) + (0 : Int64)) + (0 : Int64))), .second] []))
    refine Done.step (fun t k => XS.iconst X136.here hx rfl (hb hby at_150) k) ?_
    show Done p e below s _ _ _ (T136.setTop (mkF m 151 #[.val (.int p1), .val (.long q2), .second, .val (.long q3), .second, .val (.long q4), .second, .val (.long q5), .second, .val (.int (0 : Int32)), .val (.ref b102), .val (.ref b105), .val (.ref b111), .val (.long ((((0 : Int64) + (0 : Int64)) + (0 : Int64)) + (0 : Int64))), .second] [(.int (1 : Int32))]))
    refine Done.step (fun t k => XS.goto X136.here hx rfl (pc0 := 151) (pc' := 155) rfl (hb hby at_151) (by decide) (by decide) k) ?_
    show Done p e below s _ _ _ (T136.setTop (mkF m 155 #[.val (.int p1), .val (.long q2), .second, .val (.long q3), .second, .val (.long q4), .second, .val (.long q5), .second, .val (.int (0 : Int32)), .val (.ref b102), .val (.ref b105), .val (.ref b111), .val (.long ((((0 : Int64) + (0 : Int64)) + (0 : Int64)) + (0 : Int64))), .second] [(.int (1 : Int32))]))
    exact Done.narr X136 hx hlk hret (by simp) (hb hby at_155) (by decide) (by decide) ⟨rfl, N136⟩
  · show Done p e below s _ _ _ (s₁.setTop (mkF m 8 #[.val (.int p1), .val (.long q2), .second, .val (.long q3), .second, .val (.long q4), .second, .val (.long q5), .second, .val (.int (1 : Int32)), .unset, .unset, .unset, .unset, .unset] []))
    refine Done.step (fun t k => XS.iload X0.here hx rfl (hb hby at_8) rfl k) ?_
    show Done p e below s _ _ _ (s₁.setTop (mkF m 10 #[.val (.int p1), .val (.long q2), .second, .val (.long q3), .second, .val (.long q4), .second, .val (.long q5), .second, .val (.int (1 : Int32)), .unset, .unset, .unset, .unset, .unset] [(.int (1 : Int32))]))
    obtain ⟨T137, h137, k137, X137, e137, E137, A137, B137, st137⟩ := newPE X0 hx hZ (hw _ (List.mem_of_getElem? (i := 1) rfl)) e0 (g := (mkF m 10 #[.val (.int p1), .val (.long q2), .second, .val (.long q3), .second, .val (.long q4), .second, .val (.long q5), .second, .val (.int (1 : Int32)), .unset, .unset, .unset, .unset, .unset] [(.int (1 : Int32))])) rfl (hb hby at_10) rfl (by decide) (cap := 1) (by decide) (by decide) (by decide) (by decide) (ad := "[J") (by decide)
    obtain ⟨b137, gq137⟩ : ∃ z, z = h0.size := ⟨_, rfl⟩
    rw [← gq137] at A137 B137 st137
    have f138 : Sta Z h137 "java/util/ArrayList" "DEFAULTCAPACITY_EMPTY_ELEMENTDATA" "[Ljava/lang/Object;" (.ref dea) := Sde.ext E137
    have g_b137 : n0 ≤ b137 := Nat.le_trans Z0 (Nat.le_of_eq gq137.symm)
    have Z137 : n0 ≤ h137.size := Nat.le_trans Z0 E137.1
    have f139 : Ax Z h137 b137 .long [(.long (0 : Int64))] := Ax.new (ty := .long) (i := 1) A137 (by decide)
    refine Done.step st137 ?_
    show Done p e below s _ _ _ (T137.setTop (mkF m 12 #[.val (.int p1), .val (.long q2), .second, .val (.long q3), .second, .val (.long q4), .second, .val (.long q5), .second, .val (.int (1 : Int32)), .unset, .unset, .unset, .unset, .unset] [(.ref b137)]))
    refine Done.step (fun t k => XS.astore X137.here hx rfl (hb hby at_12) rfl rfl (l' := #[.val (.int p1), .val (.long q2), .second, .val (.long q3), .second, .val (.long q4), .second, .val (.long q5), .second, .val (.int (1 : Int32)), .val (.ref b137), .unset, .unset, .unset, .unset]) rfl k) ?_
    show Done p e below s _ _ _ (T137.setTop (mkF m 14 #[.val (.int p1), .val (.long q2), .second, .val (.long q3), .second, .val (.long q4), .second, .val (.long q5), .second, .val (.int (1 : Int32)), .val (.ref b137), .unset, .unset, .unset, .unset] []))
    refine Done.step (fun t k => XS.iload X137.here hx rfl (hb hby at_14) rfl k) ?_
    show Done p e below s _ _ _ (T137.setTop (mkF m 16 #[.val (.int p1), .val (.long q2), .second, .val (.long q3), .second, .val (.long q4), .second, .val (.long q5), .second, .val (.int (1 : Int32)), .val (.ref b137), .unset, .unset, .unset, .unset] [(.int (1 : Int32))]))
    refine Done.step (fun t k => XS.ifNo X137.here hx rfl (hb hby at_16) rfl ((if0 _ _).trans (tlt (by decide)).2.2.2) k) ?_
    show Done p e below s _ _ _ (T137.setTop (mkF m 19 #[.val (.int p1), .val (.long q2), .second, .val (.long q3), .second, .val (.long q4), .second, .val (.long q5), .second, .val (.int (1 : Int32)), .val (.ref b137), .unset, .unset, .unset, .unset] []))
    refine Done.step (fun t k => XS.aload X137.here hx rfl (hb hby at_19) rfl rfl k) ?_
    show Done p e below s _ _ _ (T137.setTop (mkF m 21 #[.val (.int p1), .val (.long q2), .second, .val (.long q3), .second, .val (.long q4), .second, .val (.long q5), .second, .val (.int (1 : Int32)), .val (.ref b137), .unset, .unset, .unset, .unset] [(.ref b137)]))
    refine Done.step (fun t k => XS.iconst X137.here hx rfl (hb hby at_21) k) ?_
    show Done p e below s _ _ _ (T137.setTop (mkF m 22 #[.val (.int p1), .val (.long q2), .second, .val (.long q3), .second, .val (.long q4), .second, .val (.long q5), .second, .val (.int (1 : Int32)), .val (.ref b137), .unset, .unset, .unset, .unset] [(.int (0 : Int32)), (.ref b137)]))
    refine Done.step (fun t k => XS.lloadN X137.here hx rfl (hb hby at_22) rfl k) ?_
    show Done p e below s _ _ _ (T137.setTop (mkF m 23 #[.val (.int p1), .val (.long q2), .second, .val (.long q3), .second, .val (.long q4), .second, .val (.long q5), .second, .val (.int (1 : Int32)), .val (.ref b137), .unset, .unset, .unset, .unset] [(.long q2), (.int (0 : Int32)), (.ref b137)]))
    obtain ⟨T140, h140, X140, e140, W140, A140, st140⟩ := stoJ X137 hx hZ e137 f139 (j := (0 : Int32)) (by decide) (i := 0) (by decide) (Nat.le_of_ble_eq_true rfl) (g := (mkF m 23 #[.val (.int p1), .val (.long q2), .second, .val (.long q3), .second, .val (.long q4), .second, .val (.long q5), .second, .val (.int (1 : Int32)), .val (.ref b137), .unset, .unset, .unset, .unset] [(.long q2), (.int (0 : Int32)), (.ref b137)])) rfl rfl (hb hby at_23)
    have f141 : Sta Z h140 "java/util/ArrayList" "DEFAULTCAPACITY_EMPTY_ELEMENTDATA" "[Ljava/lang/Object;" (.ref dea) := f138.wr W140
    have f142 : Exa Z h140 b137 "[J" := B137.wr W140
    have f143 : Ax Z h140 b137 .long [(.long q2)] := A140
    have Z140 : n0 ≤ h140.size := Nat.le_trans Z137 (Keep.of_wr W140).1
    have N140 := Fr.snoc X140 N0 g_b137
    refine Done.step st140 ?_
    show Done p e below s _ _ _ (T140.setTop (mkF m 24 #[.val (.int p1), .val (.long q2), .second, .val (.long q3), .second, .val (.long q4), .second, .val (.long q5), .second, .val (.int (1 : Int32)), .val (.ref b137), .unset, .unset, .unset, .unset] []))
    refine Done.step (fun t k => XS.iload X140.here hx rfl (hb hby at_24) rfl k) ?_
    show Done p e below s _ _ _ (T140.setTop (mkF m 26 #[.val (.int p1), .val (.long q2), .second, .val (.long q3), .second, .val (.long q4), .second, .val (.long q5), .second, .val (.int (1 : Int32)), .val (.ref b137), .unset, .unset, .unset, .unset] [(.int (1 : Int32))]))
    refine Done.step (fun t k => XS.iconst X140.here hx rfl (hb hby at_26) k) ?_
    show Done p e below s _ _ _ (T140.setTop (mkF m 27 #[.val (.int p1), .val (.long q2), .second, .val (.long q3), .second, .val (.long q4), .second, .val (.long q5), .second, .val (.int (1 : Int32)), .val (.ref b137), .unset, .unset, .unset, .unset] [(.int (1 : Int32)), (.int (1 : Int32))]))
    refine Done.step (fun t k => XS.icmpYes X140.here hx rfl (pc0 := 27) (pc' := 35) rfl (hb hby at_27) rfl (flt (by decide)).2.2.2 (by decide) (by decide) k) ?_
    show Done p e below s _ _ _ (T140.setTop (mkF m 35 #[.val (.int p1), .val (.long q2), .second, .val (.long q3), .second, .val (.long q4), .second, .val (.long q5), .second, .val (.int (1 : Int32)), .val (.ref b137), .unset, .unset, .unset, .unset] []))
    refine Done.step (fun t k => XS.iload X140.here hx rfl (hb hby at_35) rfl k) ?_
    show Done p e below s _ _ _ (T140.setTop (mkF m 37 #[.val (.int p1), .val (.long q2), .second, .val (.long q3), .second, .val (.long q4), .second, .val (.long q5), .second, .val (.int (1 : Int32)), .val (.ref b137), .unset, .unset, .unset, .unset] [(.int (1 : Int32))]))
    refine Done.step (fun t k => XS.iconst X140.here hx rfl (hb hby at_37) k) ?_
    show Done p e below s _ _ _ (T140.setTop (mkF m 38 #[.val (.int p1), .val (.long q2), .second, .val (.long q3), .second, .val (.long q4), .second, .val (.long q5), .second, .val (.int (1 : Int32)), .val (.ref b137), .unset, .unset, .unset, .unset] [(.int (2 : Int32)), (.int (1 : Int32))]))
    refine Done.step (fun t k => XS.icmpYes X140.here hx rfl (pc0 := 38) (pc' := 47) rfl (hb hby at_38) rfl (flt (by decide)).2.2.2 (by decide) (by decide) k) ?_
    show Done p e below s _ _ _ (T140.setTop (mkF m 47 #[.val (.int p1), .val (.long q2), .second, .val (.long q3), .second, .val (.long q4), .second, .val (.long q5), .second, .val (.int (1 : Int32)), .val (.ref b137), .unset, .unset, .unset, .unset] []))
    refine Done.step (fun t k => XS.iload X140.here hx rfl (hb hby at_47) rfl k) ?_
    show Done p e below s _ _ _ (T140.setTop (mkF m 49 #[.val (.int p1), .val (.long q2), .second, .val (.long q3), .second, .val (.long q4), .second, .val (.long q5), .second, .val (.int (1 : Int32)), .val (.ref b137), .unset, .unset, .unset, .unset] [(.int (1 : Int32))]))
    refine Done.step (fun t k => XS.iconst X140.here hx rfl (hb hby at_49) k) ?_
    show Done p e below s _ _ _ (T140.setTop (mkF m 50 #[.val (.int p1), .val (.long q2), .second, .val (.long q3), .second, .val (.long q4), .second, .val (.long q5), .second, .val (.int (1 : Int32)), .val (.ref b137), .unset, .unset, .unset, .unset] [(.int (3 : Int32)), (.int (1 : Int32))]))
    refine Done.step (fun t k => XS.icmpYes X140.here hx rfl (pc0 := 50) (pc' := 59) rfl (hb hby at_50) rfl (flt (by decide)).2.2.2 (by decide) (by decide) k) ?_
    show Done p e below s _ _ _ (T140.setTop (mkF m 59 #[.val (.int p1), .val (.long q2), .second, .val (.long q3), .second, .val (.long q4), .second, .val (.long q5), .second, .val (.int (1 : Int32)), .val (.ref b137), .unset, .unset, .unset, .unset] []))
    refine Done.step (fun t k => XS.iconst X140.here hx rfl (hb hby at_59) k) ?_
    show Done p e below s _ _ _ (T140.setTop (mkF m 60 #[.val (.int p1), .val (.long q2), .second, .val (.long q3), .second, .val (.long q4), .second, .val (.long q5), .second, .val (.int (1 : Int32)), .val (.ref b137), .unset, .unset, .unset, .unset] [(.int (1 : Int32))]))
    obtain ⟨T144, h144, k144, X144, e144, E144, A144, B144, st144⟩ := newPE X140 hx hZ (hw _ (List.mem_of_getElem? (i := 1) rfl)) e140 (g := (mkF m 60 #[.val (.int p1), .val (.long q2), .second, .val (.long q3), .second, .val (.long q4), .second, .val (.long q5), .second, .val (.int (1 : Int32)), .val (.ref b137), .unset, .unset, .unset, .unset] [(.int (1 : Int32))])) rfl (hb hby at_60) rfl (by decide) (cap := 1) (by decide) (by decide) (by decide) (by decide) (ad := "[J") (by decide)
    obtain ⟨b144, gq144⟩ : ∃ z, z = h140.size := ⟨_, rfl⟩
    rw [← gq144] at A144 B144 st144
    have ne145 : b137 ≠ b144 := Nat.ne_of_lt (Nat.lt_of_lt_of_le f142.lt (Nat.le_of_eq gq144.symm))
    have f146 : Sta Z h144 "java/util/ArrayList" "DEFAULTCAPACITY_EMPTY_ELEMENTDATA" "[Ljava/lang/Object;" (.ref dea) := f141.ext E144
    have f147 : Exa Z h144 b137 "[J" := f142.ext E144
    have f148 : Ax Z h144 b137 .long [(.long q2)] := f143.ext E144
    have g_b144 : n0 ≤ b144 := Nat.le_trans Z140 (Nat.le_of_eq gq144.symm)
    have Z144 : n0 ≤ h144.size := Nat.le_trans Z140 E144.1
    have f149 : Ax Z h144 b144 .long [(.long (0 : Int64))] := Ax.new (ty := .long) (i := 1) A144 (by decide)
    refine Done.step st144 ?_
    show Done p e below s _ _ _ (T144.setTop (mkF m 62 #[.val (.int p1), .val (.long q2), .second, .val (.long q3), .second, .val (.long q4), .second, .val (.long q5), .second, .val (.int (1 : Int32)), .val (.ref b137), .unset, .unset, .unset, .unset] [(.ref b144)]))
    refine Done.step (fun t k => XS.astore X144.here hx rfl (hb hby at_62) rfl rfl (l' := #[.val (.int p1), .val (.long q2), .second, .val (.long q3), .second, .val (.long q4), .second, .val (.long q5), .second, .val (.int (1 : Int32)), .val (.ref b137), .val (.ref b144), .unset, .unset, .unset]) rfl k) ?_
    show Done p e below s _ _ _ (T144.setTop (mkF m 64 #[.val (.int p1), .val (.long q2), .second, .val (.long q3), .second, .val (.long q4), .second, .val (.long q5), .second, .val (.int (1 : Int32)), .val (.ref b137), .val (.ref b144), .unset, .unset, .unset] []))
    obtain ⟨T150, h150, X150, e150, E150, A150, D150, -, st150⟩ := newO X144 hx hZ hown (hw _ (List.mem_of_getElem? (i := 2) rfl)) (hw _ (List.mem_of_getElem? (i := 3) rfl)) (hw _ (List.mem_of_getElem? (i := 4) rfl)) e144 (g := (mkF m 64 #[.val (.int p1), .val (.long q2), .second, .val (.long q3), .second, .val (.long q4), .second, .val (.long q5), .second, .val (.int (1 : Int32)), .val (.ref b137), .val (.ref b144), .unset, .unset, .unset] [])) rfl (hb hby at_64) (by decide) (by decide)
    obtain ⟨b150, gq150⟩ : ∃ z, z = h144.size := ⟨_, rfl⟩
    rw [← gq150] at A150 D150 st150
    have ne151 : b137 ≠ b150 := Nat.ne_of_lt (Nat.lt_of_lt_of_le f147.lt (Nat.le_of_eq gq150.symm))
    have ne152 : b144 ≠ b150 := Nat.ne_of_lt (Nat.lt_of_lt_of_le B144.lt (Nat.le_of_eq gq150.symm))
    have f153 : Sta Z h150 "java/util/ArrayList" "DEFAULTCAPACITY_EMPTY_ELEMENTDATA" "[Ljava/lang/Object;" (.ref dea) := f146.ext E150
    have f154 : Exa Z h150 b137 "[J" := f147.ext E150
    have f155 : Ax Z h150 b137 .long [(.long q2)] := f148.ext E150
    have f156 : Exa Z h150 b144 "[J" := B144.ext E150
    have f157 : Ax Z h150 b144 .long [(.long (0 : Int64))] := f149.ext E150
    have g_b150 : n0 ≤ b150 := Nat.le_trans Z144 (Nat.le_of_eq gq150.symm)
    have Z150 : n0 ≤ h150.size := Nat.le_trans Z144 E150.1
    have f158 : Fld Z h150 b150 "com/example/stowage/stowage/solve/HostLoad" "vms" "Ljava/util/List;" .null := D150 (Or.inr (hw _ (List.mem_of_getElem? (i := 36) rfl))) (ty := (.object "java/util/List")) (by decide)
    have f159 : Fld Z h150 b150 "com/example/stowage/stowage/solve/HostLoad" "requests" "Ljava/util/List;" .null := D150 (Or.inr (hw _ (List.mem_of_getElem? (i := 38) rfl))) (ty := (.object "java/util/List")) (by decide)
    have f160 : Fld Z h150 b150 "com/example/stowage/stowage/solve/HostLoad" "vmDisks" "Ljava/util/List;" .null := D150 (Or.inr (hw _ (List.mem_of_getElem? (i := 40) rfl))) (ty := (.object "java/util/List")) (by decide)
    have f161 : Fld Z h150 b150 "com/example/stowage/stowage/solve/HostLoad" "ruled" "Ljava/util/Map;" .null := D150 (Or.inr (hw _ (List.mem_of_getElem? (i := 58) rfl))) (ty := (.object "java/util/Map")) (by decide)
    have f162 : Fld Z h150 b150 "com/example/stowage/stowage/solve/HostLoad" "disks" "[J" .null := D150 (Or.inr (hw _ (List.mem_of_getElem? (i := 69) rfl))) (ty := (.array .long)) (by decide)
    have f163 : Fld Z h150 b150 "com/example/stowage/stowage/solve/HostLoad" "free" "[J" .null := D150 (Or.inr (hw _ (List.mem_of_getElem? (i := 71) rfl))) (ty := (.array .long)) (by decide)
    have f164 : Fld Z h150 b150 "com/example/stowage/stowage/solve/HostLoad" "diskFree" "[J" .null := D150 (Or.inr (hw _ (List.mem_of_getElem? (i := 73) rfl))) (ty := (.array .long)) (by decide)
    refine Done.step st150 ?_
    show Done p e below s _ _ _ (T150.setTop (mkF m 67 #[.val (.int p1), .val (.long q2), .second, .val (.long q3), .second, .val (.long q4), .second, .val (.long q5), .second, .val (.int (1 : Int32)), .val (.ref b137), .val (.ref b144), .unset, .unset, .unset] [(.ref b150)]))
    refine Done.step (fun t k => XS.dup X150.here hx rfl (hb hby at_67) rfl rfl k) ?_
    show Done p e below s _ _ _ (T150.setTop (mkF m 68 #[.val (.int p1), .val (.long q2), .second, .val (.long q3), .second, .val (.long q4), .second, .val (.long q5), .second, .val (.int (1 : Int32)), .val (.ref b137), .val (.ref b144), .unset, .unset, .unset] [(.ref b150), (.ref b150)]))
    refine Done.step (fun t k => XS.aload X150.here hx rfl (hb hby at_68) rfl rfl k) ?_
    show Done p e below s _ _ _ (T150.setTop (mkF m 70 #[.val (.int p1), .val (.long q2), .second, .val (.long q3), .second, .val (.long q4), .second, .val (.long q5), .second, .val (.int (1 : Int32)), .val (.ref b137), .val (.ref b144), .unset, .unset, .unset] [(.ref b144), (.ref b150), (.ref b150)]))
    refine Done.step (fun t k => XS.aload X150.here hx rfl (hb hby at_70) rfl rfl k) ?_
    show Done p e below s _ _ _ (T150.setTop (mkF m 72 #[.val (.int p1), .val (.long q2), .second, .val (.long q3), .second, .val (.long q4), .second, .val (.long q5), .second, .val (.int (1 : Int32)), .val (.ref b137), .val (.ref b144), .unset, .unset, .unset] [(.ref b137), (.ref b144), (.ref b150), (.ref b150)]))
    obtain ⟨v165, _, ⟨T165, L165, k165, n165⟩, -, X165, ⟨Lc165, hQ165, l165, y165, z165⟩, st165⟩ := X150.specialBack hx (y := (⟨"com/example/stowage/stowage/solve/HostLoad", "<init>", "([J[J)V"⟩ : MethodName)) rfl hown (mvT hZ (hw _ (List.mem_of_getElem? (i := 5) rfl))) (mvT hZ (hw _ (List.mem_of_getElem? (i := 6) rfl))) (mvT hZ (hw _ (List.mem_of_getElem? (i := 7) rfl))) (by decide) (backOf (W := 1) (rm1 l Z a0 hw [] b150 b144 b137 dea [q2] h150 n0 Z150 A150 f158 f159 f160 f161 f162 f163 f164 g_b150 f153 f156 f157 f154 f155 (Nat.le_of_ble_eq_true rfl)) hZ (hw _ (List.mem_of_getElem? (i := 7) rfl)) (hw _ (List.mem_of_getElem? (i := 4) rfl)) (by decide) (by decide)) (g := (mkF m 72 #[.val (.int p1), .val (.long q2), .second, .val (.long q3), .second, .val (.long q4), .second, .val (.long q5), .second, .val (.int (1 : Int32)), .val (.ref b137), .val (.ref b144), .unset, .unset, .unset] [(.ref b137), (.ref b144), (.ref b150), (.ref b150)])) rfl (by rw [hml]; rfl) (Steps.refl _) (a := b150) (argsL := [(.ref b144), (.ref b137)]) (rest := [(.ref b150)]) (lenOf pd_1 rfl) rfl (by show 2 * 0 + _ ≤ _; exact Nat.le_of_eq rfl) (hb hby at_72) (fun _ _ => ⟨rfl, e150, (by decide : 3 + 7 ≤ _), (by decide : 10 + 26 ≤ _)⟩)
    dsimp only [Pt.U, Pt.locs, Pt.cells, Pt.slots] at X165 l165 y165 z165 st165 hQ165
    subst l165 y165 z165
    refine Done.far st165 ?_
    obtain ⟨rfl, N165q, K165q, x165, d165, y165, z165v, w165⟩ := hQ165
    have N165 := Fr.app N140 N165q
    have ne166 : b137 ≠ d165 := Nat.ne_of_lt (Nat.lt_of_lt_of_le f154.lt w165)
    have ne167 : b144 ≠ d165 := Nat.ne_of_lt (Nat.lt_of_lt_of_le f156.lt w165)
    have ne168 : b150 ≠ d165 := Nat.ne_of_lt (Nat.lt_of_lt_of_le A150.lt w165)
    have f169 : Sta Z T165.heap "java/util/ArrayList" "DEFAULTCAPACITY_EMPTY_ELEMENTDATA" "[Ljava/lang/Object;" (.ref dea) := own_stakeep f153 K165q (allS (own_unst A150) all0)
    have f170 : Exa Z T165.heap b137 "[J" := f154.keep K165q
    have f171 : Ax Z T165.heap b137 .long [(.long q2)] := f155.keep K165q (ninS ne151 nin0)
    have f172 : Exa Z T165.heap b144 "[J" := f156.keep K165q
    have f173 : Ax Z T165.heap b144 .long [(.long (0 : Int64))] := f157.keep K165q (ninS ne152 nin0)
    have f174 : Exa Z T165.heap b150 "com/example/stowage/stowage/solve/HostLoad" := A150.keep K165q
    have Zk165 : n0 ≤ T165.heap.size := Nat.le_trans Z150 K165q.1
    show Done p e below s _ _ _ (T165.setTop (mkF m 75 #[.val (.int p1), .val (.long q2), .second, .val (.long q3), .second, .val (.long q4), .second, .val (.long q5), .second, .val (.int (1 : Int32)), .val (.ref b137), .val (.ref b144), .unset, .unset, .unset] [(.ref b150)]))
    refine Done.step (fun t k => XS.astore X165.here hx rfl (hb hby at_75) rfl rfl (l' := #[.val (.int p1), .val (.long q2), .second, .val (.long q3), .second, .val (.long q4), .second, .val (.long q5), .second, .val (.int (1 : Int32)), .val (.ref b137), .val (.ref b144), .val (.ref b150), .unset, .unset]) rfl k) ?_
    show Done p e below s _ _ _ (T165.setTop (mkF m 77 #[.val (.int p1), .val (.long q2), .second, .val (.long q3), .second, .val (.long q4), .second, .val (.long q5), .second, .val (.int (1 : Int32)), .val (.ref b137), .val (.ref b144), .val (.ref b150), .unset, .unset] []))
    refine Done.step (fun t k => XS.iload X165.here hx rfl (hb hby at_77) rfl k) ?_
    show Done p e below s _ _ _ (T165.setTop (mkF m 79 #[.val (.int p1), .val (.long q2), .second, .val (.long q3), .second, .val (.long q4), .second, .val (.long q5), .second, .val (.int (1 : Int32)), .val (.ref b137), .val (.ref b144), .val (.ref b150), .unset, .unset] [(.int (1 : Int32))]))
    refine Done.step (fun t k => XS.ifNo X165.here hx rfl (hb hby at_79) rfl ((if0 _ _).trans (tlt (by decide)).2.2.2) k) ?_
    show Done p e below s _ _ _ (T165.setTop (mkF m 82 #[.val (.int p1), .val (.long q2), .second, .val (.long q3), .second, .val (.long q4), .second, .val (.long q5), .second, .val (.int (1 : Int32)), .val (.ref b137), .val (.ref b144), .val (.ref b150), .unset, .unset] []))
    refine Done.step (fun t k => XS.aload X165.here hx rfl (hb hby at_82) rfl rfl k) ?_
    show Done p e below s _ _ _ (T165.setTop (mkF m 84 #[.val (.int p1), .val (.long q2), .second, .val (.long q3), .second, .val (.long q4), .second, .val (.long q5), .second, .val (.int (1 : Int32)), .val (.ref b137), .val (.ref b144), .val (.ref b150), .unset, .unset] [(.ref b137)]))
    refine Done.step (fun t k => XS.iconst X165.here hx rfl (hb hby at_84) k) ?_
    show Done p e below s _ _ _ (T165.setTop (mkF m 85 #[.val (.int p1), .val (.long q2), .second, .val (.long q3), .second, .val (.long q4), .second, .val (.long q5), .second, .val (.int (1 : Int32)), .val (.ref b137), .val (.ref b144), .val (.ref b150), .unset, .unset] [(.int (0 : Int32)), (.ref b137)]))
    refine Done.step (fun t k => XS.lloadN X165.here hx rfl (hb hby at_85) rfl k) ?_
    show Done p e below s _ _ _ (T165.setTop (mkF m 86 #[.val (.int p1), .val (.long q2), .second, .val (.long q3), .second, .val (.long q4), .second, .val (.long q5), .second, .val (.int (1 : Int32)), .val (.ref b137), .val (.ref b144), .val (.ref b150), .unset, .unset] [(.long q2), (.int (0 : Int32)), (.ref b137)]))
    refine Done.step (fun t k => XS.lconst X165.here hx rfl (hb hby at_86) k) ?_
    show Done p e below s _ _ _ (T165.setTop (mkF m 87 #[.val (.int p1), .val (.long q2), .second, .val (.long q3), .second, .val (.long q4), .second, .val (.long q5), .second, .val (.int (1 : Int32)), .val (.ref b137), .val (.ref b144), .val (.ref b150), .unset, .unset] [(.long (1 : Int64)), (.long q2), (.int (0 : Int32)), (.ref b137)]))
    refine Done.step (fun t k => XS.lxor X165.here hx rfl (hb hby at_87) rfl k) ?_
    show Done p e below s _ _ _ (T165.setTop (mkF m 88 #[.val (.int p1), .val (.long q2), .second, .val (.long q3), .second, .val (.long q4), .second, .val (.long q5), .second, .val (.int (1 : Int32)), .val (.ref b137), .val (.ref b144), .val (.ref b150), .unset, .unset] [(.long (q2 ^^^ (1 : Int64))), (.int (0 : Int32)), (.ref b137)]))
    obtain ⟨T175, h175, X175, e175, W175, A175, st175⟩ := stoJ X165 hx hZ rfl f171 (j := (0 : Int32)) (by decide) (i := 0) (by decide) (Nat.le_of_ble_eq_true rfl) (g := (mkF m 88 #[.val (.int p1), .val (.long q2), .second, .val (.long q3), .second, .val (.long q4), .second, .val (.long q5), .second, .val (.int (1 : Int32)), .val (.ref b137), .val (.ref b144), .val (.ref b150), .unset, .unset] [(.long (q2 ^^^ (1 : Int64))), (.int (0 : Int32)), (.ref b137)])) rfl rfl (hb hby at_88)
    have f176 : Sta Z h175 "java/util/ArrayList" "DEFAULTCAPACITY_EMPTY_ELEMENTDATA" "[Ljava/lang/Object;" (.ref dea) := f169.wr W175
    have f177 : Exa Z h175 b137 "[J" := f170.wr W175
    have f178 : Ax Z h175 b137 .long [(.long (q2 ^^^ (1 : Int64)))] := A175
    have f179 : Exa Z h175 b144 "[J" := f172.wr W175
    have f180 : Ax Z h175 b144 .long [(.long (0 : Int64))] := f173.other W175 (Ne.symm ne145)
    have f181 : Exa Z h175 b150 "com/example/stowage/stowage/solve/HostLoad" := f174.wr W175
    have f182 : Fld Z h175 b150 "com/example/stowage/stowage/solve/HostLoad" "diskFree" "[J" (.ref d165) := y165.other W175 (Or.inl (Ne.symm ne151))
    have f183 : Ax Z h175 d165 .long [(.long q2)] := z165v.other W175 (Ne.symm ne166)
    have Z175 : n0 ≤ h175.size := Nat.le_trans Zk165 (Keep.of_wr W175).1
    have N175 := Fr.snoc X175 N165 g_b137
    refine Done.step st175 ?_
    show Done p e below s _ _ _ (T175.setTop (mkF m 89 #[.val (.int p1), .val (.long q2), .second, .val (.long q3), .second, .val (.long q4), .second, .val (.long q5), .second, .val (.int (1 : Int32)), .val (.ref b137), .val (.ref b144), .val (.ref b150), .unset, .unset] []))
    refine Done.step (fun t k => XS.iload X175.here hx rfl (hb hby at_89) rfl k) ?_
    show Done p e below s _ _ _ (T175.setTop (mkF m 91 #[.val (.int p1), .val (.long q2), .second, .val (.long q3), .second, .val (.long q4), .second, .val (.long q5), .second, .val (.int (1 : Int32)), .val (.ref b137), .val (.ref b144), .val (.ref b150), .unset, .unset] [(.int (1 : Int32))]))
    refine Done.step (fun t k => XS.ifNo X175.here hx rfl (hb hby at_91) rfl ((if0 _ _).trans (tlt (by decide)).2.2.2) k) ?_
    show Done p e below s _ _ _ (T175.setTop (mkF m 94 #[.val (.int p1), .val (.long q2), .second, .val (.long q3), .second, .val (.long q4), .second, .val (.long q5), .second, .val (.int (1 : Int32)), .val (.ref b137), .val (.ref b144), .val (.ref b150), .unset, .unset] []))
    refine Done.step (fun t k => XS.lloadN X175.here hx rfl (hb hby at_94) rfl k) ?_
    show Done p e below s _ _ _ (T175.setTop (mkF m 95 #[.val (.int p1), .val (.long q2), .second, .val (.long q3), .second, .val (.long q4), .second, .val (.long q5), .second, .val (.int (1 : Int32)), .val (.ref b137), .val (.ref b144), .val (.ref b150), .unset, .unset] [(.long q2)]))
    refine Done.step (fun t k => XS.goto X175.here hx rfl (pc0 := 95) (pc' := 99) rfl (hb hby at_95) (by decide) (by decide) k) ?_
    show Done p e below s _ _ _ (T175.setTop (mkF m 99 #[.val (.int p1), .val (.long q2), .second, .val (.long q3), .second, .val (.long q4), .second, .val (.long q5), .second, .val (.int (1 : Int32)), .val (.ref b137), .val (.ref b144), .val (.ref b150), .unset, .unset] [(.long q2)]))
    refine Done.step (fun t k => XS.iload X175.here hx rfl (hb hby at_99) rfl k) ?_
    show Done p e below s _ _ _ (T175.setTop (mkF m 101 #[.val (.int p1), .val (.long q2), .second, .val (.long q3), .second, .val (.long q4), .second, .val (.long q5), .second, .val (.int (1 : Int32)), .val (.ref b137), .val (.ref b144), .val (.ref b150), .unset, .unset] [(.int (1 : Int32)), (.long q2)]))
    refine Done.step (fun t k => XS.iconst X175.here hx rfl (hb hby at_101) k) ?_
    show Done p e below s _ _ _ (T175.setTop (mkF m 102 #[.val (.int p1), .val (.long q2), .second, .val (.long q3), .second, .val (.long q4), .second, .val (.long q5), .second, .val (.int (1 : Int32)), .val (.ref b137), .val (.ref b144), .val (.ref b150), .unset, .unset] [(.int (1 : Int32)), (.int (1 : Int32)), (.long q2)]))
    refine Done.step (fun t k => XS.icmpYes X175.here hx rfl (pc0 := 102) (pc' := 109) rfl (hb hby at_102) rfl (flt (by decide)).2.2.2 (by decide) (by decide) k) ?_
    show Done p e below s _ _ _ (T175.setTop (mkF m 109 #[.val (.int p1), .val (.long q2), .second, .val (.long q3), .second, .val (.long q4), .second, .val (.long q5), .second, .val (.int (1 : Int32)), .val (.ref b137), .val (.ref b144), .val (.ref b150), .unset, .unset] [(.long q2)]))
    refine Done.step (fun t k => XS.lconst X175.here hx rfl (hb hby at_109) k) ?_
    show Done p e below s _ _ _ (T175.setTop (mkF m 110 #[.val (.int p1), .val (.long q2), .second, .val (.long q3), .second, .val (.long q4), .second, .val (.long q5), .second, .val (.int (1 : Int32)), .val (.ref b137), .val (.ref b144), .val (.ref b150), .unset, .unset] [(.long (0 : Int64)), (.long q2)]))
    refine Done.step (fun t k => XS.ladd X175.here hx rfl (hb hby at_110) rfl k) ?_
    show Done p e below s _ _ _ (T175.setTop (mkF m 111 #[.val (.int p1), .val (.long q2), .second, .val (.long q3), .second, .val (.long q4), .second, .val (.long q5), .second, .val (.int (1 : Int32)), .val (.ref b137), .val (.ref b144), .val (.ref b150), .unset, .unset] [(.long (q2 + (0 : Int64)))]))
    refine Done.step (fun t k => XS.iload X175.here hx rfl (hb hby at_111) rfl k) ?_
    show Done p e below s _ _ _ (T175.setTop (mkF m 113 #[.val (.int p1), .val (.long q2), .second, .val (.long q3), .second, .val (.long q4), .second, .val (.long q5), .second, .val (.int (1 : Int32)), .val (.ref b137), .val (.ref b144), .val (.ref b150), .unset, .unset] [(.int (1 : Int32)), (.long (q2 + (0 : Int64)))]))
    refine Done.step (fun t k => XS.iconst X175.here hx rfl (hb hby at_113) k) ?_
    show Done p e below s _ _ _ (T175.setTop (mkF m 114 #[.val (.int p1), .val (.long q2), .second, .val (.long q3), .second, .val (.long q4), .second, .val (.long q5), .second, .val (.int (1 : Int32)), .val (.ref b137), .val (.ref b144), .val (.ref b150), .unset, .unset] [(.int (2 : Int32)), (.int (1 : Int32)), (.long (q2 + (0 : Int64)))]))
    refine Done.step (fun t k => XS.icmpYes X175.here hx rfl (pc0 := 114) (pc' := 122) rfl (hb hby at_114) rfl (flt (by decide)).2.2.2 (by decide) (by decide) k) ?_
    show Done p e below s _ _ _ (T175.setTop (mkF m 122 #[.val (.int p1), .val (.long q2), .second, .val (.long q3), .second, .val (.long q4), .second, .val (.long q5), .second, .val (.int (1 : Int32)), .val (.ref b137), .val (.ref b144), .val (.ref b150), .unset, .unset] [(.long (q2 + (0 : Int64)))]))
    refine Done.step (fun t k => XS.lconst X175.here hx rfl (hb hby at_122) k) ?_
    show Done p e below s _ _ _ (T175.setTop (mkF m 123 #[.val (.int p1), .val (.long q2), .second, .val (.long q3), .second, .val (.long q4), .second, .val (.long q5), .second, .val (.int (1 : Int32)), .val (.ref b137), .val (.ref b144), .val (.ref b150), .unset, .unset] [(.long (0 : Int64)), (.long (q2 + (0 : Int64)))]))
    refine Done.step (fun t k => XS.ladd X175.here hx rfl (hb hby at_123) rfl k) ?_
    show Done p e below s _ _ _ (T175.setTop (mkF m 124 #[.val (.int p1), .val (.long q2), .second, .val (.long q3), .second, .val (.long q4), .second, .val (.long q5), .second, .val (.int (1 : Int32)), .val (.ref b137), .val (.ref b144), .val (.ref b150), .unset, .unset] [(.long ((q2 + (0 : Int64)) + (0 : Int64)))]))
    refine Done.step (fun t k => XS.iload X175.here hx rfl (hb hby at_124) rfl k) ?_
    show Done p e below s _ _ _ (T175.setTop (mkF m 126 #[.val (.int p1), .val (.long q2), .second, .val (.long q3), .second, .val (.long q4), .second, .val (.long q5), .second, .val (.int (1 : Int32)), .val (.ref b137), .val (.ref b144), .val (.ref b150), .unset, .unset] [(.int (1 : Int32)), (.long ((q2 + (0 : Int64)) + (0 : Int64)))]))
    refine Done.step (fun t k => XS.iconst X175.here hx rfl (hb hby at_126) k) ?_
    show Done p e below s _ _ _ (T175.setTop (mkF m 127 #[.val (.int p1), .val (.long q2), .second, .val (.long q3), .second, .val (.long q4), .second, .val (.long q5), .second, .val (.int (1 : Int32)), .val (.ref b137), .val (.ref b144), .val (.ref b150), .unset, .unset] [(.int (3 : Int32)), (.int (1 : Int32)), (.long ((q2 + (0 : Int64)) + (0 : Int64)))]))
    refine Done.step (fun t k => XS.icmpYes X175.here hx rfl (pc0 := 127) (pc' := 135) rfl (hb hby at_127) rfl (flt (by decide)).2.2.2 (by decide) (by decide) k) ?_
    show Done p e below s _ _ _ (T175.setTop (mkF m 135 #[.val (.int p1), .val (.long q2), .second, .val (.long q3), .second, .val (.long q4), .second, .val (.long q5), .second, .val (.int (1 : Int32)), .val (.ref b137), .val (.ref b144), .val (.ref b150), .unset, .unset] [(.long ((q2 + (0 : Int64)) + (0 : Int64)))]))
    refine Done.step (fun t k => XS.lconst X175.here hx rfl (hb hby at_135) k) ?_
    show Done p e below s _ _ _ (T175.setTop (mkF m 136 #[.val (.int p1), .val (.long q2), .second, .val (.long q3), .second, .val (.long q4), .second, .val (.long q5), .second, .val (.int (1 : Int32)), .val (.ref b137), .val (.ref b144), .val (.ref b150), .unset, .unset] [(.long (0 : Int64)), (.long ((q2 + (0 : Int64)) + (0 : Int64)))]))
    refine Done.step (fun t k => XS.ladd X175.here hx rfl (hb hby at_136) rfl k) ?_
    show Done p e below s _ _ _ (T175.setTop (mkF m 137 #[.val (.int p1), .val (.long q2), .second, .val (.long q3), .second, .val (.long q4), .second, .val (.long q5), .second, .val (.int (1 : Int32)), .val (.ref b137), .val (.ref b144), .val (.ref b150), .unset, .unset] [(.long (((q2 + (0 : Int64)) + (0 : Int64)) + (0 : Int64)))]))
    refine Done.step (fun t k => XS.lstore X175.here hx rfl (hb hby at_137) rfl (l' := #[.val (.int p1), .val (.long q2), .second, .val (.long q3), .second, .val (.long q4), .second, .val (.long q5), .second, .val (.int (1 : Int32)), .val (.ref b137), .val (.ref b144), .val (.ref b150), .val (.long (((q2 + (0 : Int64)) + (0 : Int64)) + (0 : Int64))), .second]) rfl k) ?_
    show Done p e below s _ _ _ (T175.setTop (mkF m 139 #[.val (.int p1), .val (.long q2), .second, .val (.long q3), .second, .val (.long q4), .second, .val (.long q5), .second, .val (.int (1 : Int32)), .val (.ref b137), .val (.ref b144), .val (.ref b150), .val (.long (((q2 + (0 : Int64)) + (0 : Int64)) + (0 : Int64))), .second] []))
    refine Done.step (fun t k => XS.aload X175.here hx rfl (hb hby at_139) rfl rfl k) ?_
    show Done p e below s _ _ _ (T175.setTop (mkF m 141 #[.val (.int p1), .val (.long q2), .second, .val (.long q3), .second, .val (.long q4), .second, .val (.long q5), .second, .val (.int (1 : Int32)), .val (.ref b137), .val (.ref b144), .val (.ref b150), .val (.long (((q2 + (0 : Int64)) + (0 : Int64)) + (0 : Int64))), .second] [(.ref b150)]))
    obtain ⟨cq184, kq184, q184a, q184b, q184c⟩ := isOf hZ e175 f181
    obtain ⟨v184, _, ⟨T184, L184, k184, n184⟩, -, X184, ⟨Lc184, hQ184, l184, y184, z184⟩, st184⟩ := X175.virtualBack hx (y := (⟨"com/example/stowage/stowage/solve/HostLoad", "freeDiskSpace", "()J"⟩ : MethodName)) (z := (⟨"com/example/stowage/stowage/solve/HostLoad", "freeDiskSpace", "()J"⟩ : MethodName)) hown (mvT hZ (hw _ (List.mem_of_getElem? (i := 74) rfl))) (mvT hZ (hw _ (List.mem_of_getElem? (i := 75) rfl))) (notFace_of_selects (args := #[]) (mvT hZ (hw _ (List.mem_of_getElem? (i := 77) rfl)))) (mvT hZ (hw _ (List.mem_of_getElem? (i := 77) rfl))) (mvT hZ (hw _ (List.mem_of_getElem? (i := 76) rfl))) (by decide) (backOf (W := 0) (rm8 l Z a0 hw [] b150 d165 [q2] h175 n0 Z175 f182 f183 (Nat.le_of_ble_eq_true rfl)) hZ (hw _ (List.mem_of_getElem? (i := 78) rfl)) (hw _ (List.mem_of_getElem? (i := 4) rfl)) (by decide) (by decide)) q184a q184c (g := (mkF m 141 #[.val (.int p1), .val (.long q2), .second, .val (.long q3), .second, .val (.long q4), .second, .val (.long q5), .second, .val (.int (1 : Int32)), .val (.ref b137), .val (.ref b144), .val (.ref b150), .val (.long (((q2 + (0 : Int64)) + (0 : Int64)) + (0 : Int64))), .second] [(.ref b150)])) rfl (by rw [hml]; rfl) (Steps.refl _) (argsL := []) (rest := []) (lenOf pd_2 rfl) rfl (by show 2 * 0 + _ ≤ _; exact Nat.le_of_eq rfl) (hb hby at_141) (fun _ _ => ⟨rfl, e175, (by decide : 10 + 0 ≤ _), (by decide : 36 + 0 ≤ _)⟩)
    dsimp only [Pt.U, Pt.locs, Pt.cells, Pt.slots] at X184 l184 y184 z184 st184 hQ184
    subst l184 y184 z184
    refine Done.far st184 ?_
    obtain ⟨rfl, N184q, e184⟩ := hQ184
    have N184 := Fr.app N175 N184q
    show Done p e below s _ _ _ (T184.setTop (mkF m 144 #[.val (.int p1), .val (.long q2), .second, .val (.long q3), .second, .val (.long q4), .second, .val (.long q5), .second, .val (.int (1 : Int32)), .val (.ref b137), .val (.ref b144), .val (.ref b150), .val (.long (((q2 + (0 : Int64)) + (0 : Int64)) + (0 : Int64))), .second] [(.long (List.foldl (· + ·) (0 : Int64) [q2]))]))
    refine Done.step (fun t k => XS.lload X184.here hx rfl (hb hby at_144) rfl k) ?_
    show Done p e below s _ _ _ (T184.setTop (mkF m 146 #[.val (.int p1), .val (.long q2), .second, .val (.long q3), .second, .val (.long q4), .second, .val (.long q5), .second, .val (.int (1 : Int32)), .val (.ref b137), .val (.ref b144), .val (.ref b150), .val (.long (((q2 + (0 : Int64)) + (0 : Int64)) + (0 : Int64))), .second] [(.long (((q2 + (0 : Int64)) + (0 : Int64)) + (0 : Int64))), (.long (List.foldl (· + ·) (0 : Int64) [q2]))]))
    refine Done.step (fun t k => XS.lcmp X184.here hx rfl (hb hby at_146) rfl k) ?_
    show Done p e below s _ _ _ (T184.setTop (mkF m 147 #[.val (.int p1), .val (.long q2), .second, .val (.long q3), .second, .val (.long q4), .second, .val (.long q5), .second, .val (.int (1 : Int32)), .val (.ref b137), .val (.ref b144), .val (.ref b150), .val (.long (((q2 + (0 : Int64)) + (0 : Int64)) + (0 : Int64))), .second] [(.int (lcmpW (List.foldl (· + ·) (0 : Int64) [q2]) (((q2 + (0 : Int64)) + (0 : Int64)) + (0 : Int64))))]))
    refine Done.step (fun t k => XS.ifNo X184.here hx rfl (hb hby at_147) rfl ((if0 _ _).trans (teq ((lw_eq _ _).mpr (show (List.foldl (· + ·) (0 : Int64) [q2]) = (((q2 + (0 : Int64)) + (0 : Int64)) + (0 : Int64)) from (by simp [List.foldl])))).2) k) ?_
    show Done p e below s _ _ _ (T184.setTop (mkF m 150 #[.val (.int p1), .val (.long q2), .second, .val (.long q3), .second, .val (.long q4), .second, .val (.long q5), .second, .val (.int (1 : Int32)), .val (.ref b137), .val (.ref b144), .val (.ref b150), .val (.long (((q2 + (0 : Int64)) + (0 : Int64)) + (0 : Int64))), .second] []))
    refine Done.step (fun t k => XS.iconst X184.here hx rfl (hb hby at_150) k) ?_
    show Done p e below s _ _ _ (T184.setTop (mkF m 151 #[.val (.int p1), .val (.long q2), .second, .val (.long q3), .second, .val (.long q4), .second, .val (.long q5), .second, .val (.int (1 : Int32)), .val (.ref b137), .val (.ref b144), .val (.ref b150), .val (.long (((q2 + (0 : Int64)) + (0 : Int64)) + (0 : Int64))), .second] [(.int (1 : Int32))]))
    refine Done.step (fun t k => XS.goto X184.here hx rfl (pc0 := 151) (pc' := 155) rfl (hb hby at_151) (by decide) (by decide) k) ?_
    show Done p e below s _ _ _ (T184.setTop (mkF m 155 #[.val (.int p1), .val (.long q2), .second, .val (.long q3), .second, .val (.long q4), .second, .val (.long q5), .second, .val (.int (1 : Int32)), .val (.ref b137), .val (.ref b144), .val (.ref b150), .val (.long (((q2 + (0 : Int64)) + (0 : Int64)) + (0 : Int64))), .second] [(.int (1 : Int32))]))
    exact Done.narr X184 hx hlk hret (by simp) (hb hby at_155) (by decide) (by decide) ⟨rfl, N184⟩
  · show Done p e below s _ _ _ (s₁.setTop (mkF m 8 #[.val (.int p1), .val (.long q2), .second, .val (.long q3), .second, .val (.long q4), .second, .val (.long q5), .second, .val (.int (2 : Int32)), .unset, .unset, .unset, .unset, .unset] []))
    refine Done.step (fun t k => XS.iload X0.here hx rfl (hb hby at_8) rfl k) ?_
    show Done p e below s _ _ _ (s₁.setTop (mkF m 10 #[.val (.int p1), .val (.long q2), .second, .val (.long q3), .second, .val (.long q4), .second, .val (.long q5), .second, .val (.int (2 : Int32)), .unset, .unset, .unset, .unset, .unset] [(.int (2 : Int32))]))
    obtain ⟨T185, h185, k185, X185, e185, E185, A185, B185, st185⟩ := newPE X0 hx hZ (hw _ (List.mem_of_getElem? (i := 1) rfl)) e0 (g := (mkF m 10 #[.val (.int p1), .val (.long q2), .second, .val (.long q3), .second, .val (.long q4), .second, .val (.long q5), .second, .val (.int (2 : Int32)), .unset, .unset, .unset, .unset, .unset] [(.int (2 : Int32))])) rfl (hb hby at_10) rfl (by decide) (cap := 2) (by decide) (by decide) (by decide) (by decide) (ad := "[J") (by decide)
    obtain ⟨b185, gq185⟩ : ∃ z, z = h0.size := ⟨_, rfl⟩
    rw [← gq185] at A185 B185 st185
    have f186 : Sta Z h185 "java/util/ArrayList" "DEFAULTCAPACITY_EMPTY_ELEMENTDATA" "[Ljava/lang/Object;" (.ref dea) := Sde.ext E185
    have g_b185 : n0 ≤ b185 := Nat.le_trans Z0 (Nat.le_of_eq gq185.symm)
    have Z185 : n0 ≤ h185.size := Nat.le_trans Z0 E185.1
    have f187 : Ax Z h185 b185 .long [(.long (0 : Int64)), (.long (0 : Int64))] := Ax.new (ty := .long) (i := 2) A185 (by decide)
    refine Done.step st185 ?_
    show Done p e below s _ _ _ (T185.setTop (mkF m 12 #[.val (.int p1), .val (.long q2), .second, .val (.long q3), .second, .val (.long q4), .second, .val (.long q5), .second, .val (.int (2 : Int32)), .unset, .unset, .unset, .unset, .unset] [(.ref b185)]))
    refine Done.step (fun t k => XS.astore X185.here hx rfl (hb hby at_12) rfl rfl (l' := #[.val (.int p1), .val (.long q2), .second, .val (.long q3), .second, .val (.long q4), .second, .val (.long q5), .second, .val (.int (2 : Int32)), .val (.ref b185), .unset, .unset, .unset, .unset]) rfl k) ?_
    show Done p e below s _ _ _ (T185.setTop (mkF m 14 #[.val (.int p1), .val (.long q2), .second, .val (.long q3), .second, .val (.long q4), .second, .val (.long q5), .second, .val (.int (2 : Int32)), .val (.ref b185), .unset, .unset, .unset, .unset] []))
    refine Done.step (fun t k => XS.iload X185.here hx rfl (hb hby at_14) rfl k) ?_
    show Done p e below s _ _ _ (T185.setTop (mkF m 16 #[.val (.int p1), .val (.long q2), .second, .val (.long q3), .second, .val (.long q4), .second, .val (.long q5), .second, .val (.int (2 : Int32)), .val (.ref b185), .unset, .unset, .unset, .unset] [(.int (2 : Int32))]))
    refine Done.step (fun t k => XS.ifNo X185.here hx rfl (hb hby at_16) rfl ((if0 _ _).trans (tlt (by decide)).2.2.2) k) ?_
    show Done p e below s _ _ _ (T185.setTop (mkF m 19 #[.val (.int p1), .val (.long q2), .second, .val (.long q3), .second, .val (.long q4), .second, .val (.long q5), .second, .val (.int (2 : Int32)), .val (.ref b185), .unset, .unset, .unset, .unset] []))
    refine Done.step (fun t k => XS.aload X185.here hx rfl (hb hby at_19) rfl rfl k) ?_
    show Done p e below s _ _ _ (T185.setTop (mkF m 21 #[.val (.int p1), .val (.long q2), .second, .val (.long q3), .second, .val (.long q4), .second, .val (.long q5), .second, .val (.int (2 : Int32)), .val (.ref b185), .unset, .unset, .unset, .unset] [(.ref b185)]))
    refine Done.step (fun t k => XS.iconst X185.here hx rfl (hb hby at_21) k) ?_
    show Done p e below s _ _ _ (T185.setTop (mkF m 22 #[.val (.int p1), .val (.long q2), .second, .val (.long q3), .second, .val (.long q4), .second, .val (.long q5), .second, .val (.int (2 : Int32)), .val (.ref b185), .unset, .unset, .unset, .unset] [(.int (0 : Int32)), (.ref b185)]))
    refine Done.step (fun t k => XS.lloadN X185.here hx rfl (hb hby at_22) rfl k) ?_
    show Done p e below s _ _ _ (T185.setTop (mkF m 23 #[.val (.int p1), .val (.long q2), .second, .val (.long q3), .second, .val (.long q4), .second, .val (.long q5), .second, .val (.int (2 : Int32)), .val (.ref b185), .unset, .unset, .unset, .unset] [(.long q2), (.int (0 : Int32)), (.ref b185)]))
    obtain ⟨T188, h188, X188, e188, W188, A188, st188⟩ := stoJ X185 hx hZ e185 f187 (j := (0 : Int32)) (by decide) (i := 0) (by decide) (Nat.le_of_ble_eq_true rfl) (g := (mkF m 23 #[.val (.int p1), .val (.long q2), .second, .val (.long q3), .second, .val (.long q4), .second, .val (.long q5), .second, .val (.int (2 : Int32)), .val (.ref b185), .unset, .unset, .unset, .unset] [(.long q2), (.int (0 : Int32)), (.ref b185)])) rfl rfl (hb hby at_23)
    have f189 : Sta Z h188 "java/util/ArrayList" "DEFAULTCAPACITY_EMPTY_ELEMENTDATA" "[Ljava/lang/Object;" (.ref dea) := f186.wr W188
    have f190 : Exa Z h188 b185 "[J" := B185.wr W188
    have f191 : Ax Z h188 b185 .long [(.long q2), (.long (0 : Int64))] := A188
    have Z188 : n0 ≤ h188.size := Nat.le_trans Z185 (Keep.of_wr W188).1
    have N188 := Fr.snoc X188 N0 g_b185
    refine Done.step st188 ?_
    show Done p e below s _ _ _ (T188.setTop (mkF m 24 #[.val (.int p1), .val (.long q2), .second, .val (.long q3), .second, .val (.long q4), .second, .val (.long q5), .second, .val (.int (2 : Int32)), .val (.ref b185), .unset, .unset, .unset, .unset] []))
    refine Done.step (fun t k => XS.iload X188.here hx rfl (hb hby at_24) rfl k) ?_
    show Done p e below s _ _ _ (T188.setTop (mkF m 26 #[.val (.int p1), .val (.long q2), .second, .val (.long q3), .second, .val (.long q4), .second, .val (.long q5), .second, .val (.int (2 : Int32)), .val (.ref b185), .unset, .unset, .unset, .unset] [(.int (2 : Int32))]))
    refine Done.step (fun t k => XS.iconst X188.here hx rfl (hb hby at_26) k) ?_
    show Done p e below s _ _ _ (T188.setTop (mkF m 27 #[.val (.int p1), .val (.long q2), .second, .val (.long q3), .second, .val (.long q4), .second, .val (.long q5), .second, .val (.int (2 : Int32)), .val (.ref b185), .unset, .unset, .unset, .unset] [(.int (1 : Int32)), (.int (2 : Int32))]))
    refine Done.step (fun t k => XS.icmpNo X188.here hx rfl (hb hby at_27) rfl (tlt (by decide)).2.2.2 k) ?_
    show Done p e below s _ _ _ (T188.setTop (mkF m 30 #[.val (.int p1), .val (.long q2), .second, .val (.long q3), .second, .val (.long q4), .second, .val (.long q5), .second, .val (.int (2 : Int32)), .val (.ref b185), .unset, .unset, .unset, .unset] []))
    refine Done.step (fun t k => XS.aload X188.here hx rfl (hb hby at_30) rfl rfl k) ?_
    show Done p e below s _ _ _ (T188.setTop (mkF m 32 #[.val (.int p1), .val (.long q2), .second, .val (.long q3), .second, .val (.long q4), .second, .val (.long q5), .second, .val (.int (2 : Int32)), .val (.ref b185), .unset, .unset, .unset, .unset] [(.ref b185)]))
    refine Done.step (fun t k => XS.iconst X188.here hx rfl (hb hby at_32) k) ?_
    show Done p e below s _ _ _ (T188.setTop (mkF m 33 #[.val (.int p1), .val (.long q2), .second, .val (.long q3), .second, .val (.long q4), .second, .val (.long q5), .second, .val (.int (2 : Int32)), .val (.ref b185), .unset, .unset, .unset, .unset] [(.int (1 : Int32)), (.ref b185)]))
    refine Done.step (fun t k => XS.lloadN X188.here hx rfl (hb hby at_33) rfl k) ?_
    show Done p e below s _ _ _ (T188.setTop (mkF m 34 #[.val (.int p1), .val (.long q2), .second, .val (.long q3), .second, .val (.long q4), .second, .val (.long q5), .second, .val (.int (2 : Int32)), .val (.ref b185), .unset, .unset, .unset, .unset] [(.long q3), (.int (1 : Int32)), (.ref b185)]))
    obtain ⟨T192, h192, X192, e192, W192, A192, st192⟩ := stoJ X188 hx hZ e188 f191 (j := (1 : Int32)) (by decide) (i := 1) (by decide) (Nat.le_of_ble_eq_true rfl) (g := (mkF m 34 #[.val (.int p1), .val (.long q2), .second, .val (.long q3), .second, .val (.long q4), .second, .val (.long q5), .second, .val (.int (2 : Int32)), .val (.ref b185), .unset, .unset, .unset, .unset] [(.long q3), (.int (1 : Int32)), (.ref b185)])) rfl rfl (hb hby at_34)
    have f193 : Sta Z h192 "java/util/ArrayList" "DEFAULTCAPACITY_EMPTY_ELEMENTDATA" "[Ljava/lang/Object;" (.ref dea) := f189.wr W192
    have f194 : Exa Z h192 b185 "[J" := f190.wr W192
    have f195 : Ax Z h192 b185 .long [(.long q2), (.long q3)] := A192
    have Z192 : n0 ≤ h192.size := Nat.le_trans Z188 (Keep.of_wr W192).1
    have N192 := Fr.snoc X192 N188 g_b185
    refine Done.step st192 ?_
    show Done p e below s _ _ _ (T192.setTop (mkF m 35 #[.val (.int p1), .val (.long q2), .second, .val (.long q3), .second, .val (.long q4), .second, .val (.long q5), .second, .val (.int (2 : Int32)), .val (.ref b185), .unset, .unset, .unset, .unset] []))
    refine Done.step (fun t k => XS.iload X192.here hx rfl (hb hby at_35) rfl k) ?_
    show Done p e below s _ _ _ (T192.setTop (mkF m 37 #[.val (.int p1), .val (.long q2), .second, .val (.long q3), .second, .val (.long q4), .second, .val (.long q5), .second, .val (.int (2 : Int32)), .val (.ref b185), .unset, .unset, .unset, .unset] [(.int (2 : Int32))]))
    refine Done.step (fun t k => XS.iconst X192.here hx rfl (hb hby at_37) k) ?_
    show Done p e below s _ _ _ (T192.setTop (mkF m 38 #[.val (.int p1), .val (.long q2), .second, .val (.long q3), .second, .val (.long q4), .second, .val (.long q5), .second, .val (.int (2 : Int32)), .val (.ref b185), .unset, .unset, .unset, .unset] [(.int (2 : Int32)), (.int (2 : Int32))]))
    refine Done.step (fun t k => XS.icmpYes X192.here hx rfl (pc0 := 38) (pc' := 47) rfl (hb hby at_38) rfl (flt (by decide)).2.2.2 (by decide) (by decide) k) ?_
    show Done p e below s _ _ _ (T192.setTop (mkF m 47 #[.val (.int p1), .val (.long q2), .second, .val (.long q3), .second, .val (.long q4), .second, .val (.long q5), .second, .val (.int (2 : Int32)), .val (.ref b185), .unset, .unset, .unset, .unset] []))
    refine Done.step (fun t k => XS.iload X192.here hx rfl (hb hby at_47) rfl k) ?_
    show Done p e below s _ _ _ (T192.setTop (mkF m 49 #[.val (.int p1), .val (.long q2), .second, .val (.long q3), .second, .val (.long q4), .second, .val (.long q5), .second, .val (.int (2 : Int32)), .val (.ref b185), .unset, .unset, .unset, .unset] [(.int (2 : Int32))]))
    refine Done.step (fun t k => XS.iconst X192.here hx rfl (hb hby at_49) k) ?_
    show Done p e below s _ _ _ (T192.setTop (mkF m 50 #[.val (.int p1), .val (.long q2), .second, .val (.long q3), .second, .val (.long q4), .second, .val (.long q5), .second, .val (.int (2 : Int32)), .val (.ref b185), .unset, .unset, .unset, .unset] [(.int (3 : Int32)), (.int (2 : Int32))]))
    refine Done.step (fun t k => XS.icmpYes X192.here hx rfl (pc0 := 50) (pc' := 59) rfl (hb hby at_50) rfl (flt (by decide)).2.2.2 (by decide) (by decide) k) ?_
    show Done p e below s _ _ _ (T192.setTop (mkF m 59 #[.val (.int p1), .val (.long q2), .second, .val (.long q3), .second, .val (.long q4), .second, .val (.long q5), .second, .val (.int (2 : Int32)), .val (.ref b185), .unset, .unset, .unset, .unset] []))
    refine Done.step (fun t k => XS.iconst X192.here hx rfl (hb hby at_59) k) ?_
    show Done p e below s _ _ _ (T192.setTop (mkF m 60 #[.val (.int p1), .val (.long q2), .second, .val (.long q3), .second, .val (.long q4), .second, .val (.long q5), .second, .val (.int (2 : Int32)), .val (.ref b185), .unset, .unset, .unset, .unset] [(.int (1 : Int32))]))
    obtain ⟨T196, h196, k196, X196, e196, E196, A196, B196, st196⟩ := newPE X192 hx hZ (hw _ (List.mem_of_getElem? (i := 1) rfl)) e192 (g := (mkF m 60 #[.val (.int p1), .val (.long q2), .second, .val (.long q3), .second, .val (.long q4), .second, .val (.long q5), .second, .val (.int (2 : Int32)), .val (.ref b185), .unset, .unset, .unset, .unset] [(.int (1 : Int32))])) rfl (hb hby at_60) rfl (by decide) (cap := 1) (by decide) (by decide) (by decide) (by decide) (ad := "[J") (by decide)
    obtain ⟨b196, gq196⟩ : ∃ z, z = h192.size := ⟨_, rfl⟩
    rw [← gq196] at A196 B196 st196
    have ne197 : b185 ≠ b196 := Nat.ne_of_lt (Nat.lt_of_lt_of_le f194.lt (Nat.le_of_eq gq196.symm))
    have f198 : Sta Z h196 "java/util/ArrayList" "DEFAULTCAPACITY_EMPTY_ELEMENTDATA" "[Ljava/lang/Object;" (.ref dea) := f193.ext E196
    have f199 : Exa Z h196 b185 "[J" := f194.ext E196
    have f200 : Ax Z h196 b185 .long [(.long q2), (.long q3)] := f195.ext E196
    have g_b196 : n0 ≤ b196 := Nat.le_trans Z192 (Nat.le_of_eq gq196.symm)
    have Z196 : n0 ≤ h196.size := Nat.le_trans Z192 E196.1
    have f201 : Ax Z h196 b196 .long [(.long (0 : Int64))] := Ax.new (ty := .long) (i := 1) A196 (by decide)
    refine Done.step st196 ?_
    show Done p e below s _ _ _ (T196.setTop (mkF m 62 #[.val (.int p1), .val (.long q2), .second, .val (.long q3), .second, .val (.long q4), .second, .val (.long q5), .second, .val (.int (2 : Int32)), .val (.ref b185), .unset, .unset, .unset, .unset] [(.ref b196)]))
    refine Done.step (fun t k => XS.astore X196.here hx rfl (hb hby at_62) rfl rfl (l' := #[.val (.int p1), .val (.long q2), .second, .val (.long q3), .second, .val (.long q4), .second, .val (.long q5), .second, .val (.int (2 : Int32)), .val (.ref b185), .val (.ref b196), .unset, .unset, .unset]) rfl k) ?_
    show Done p e below s _ _ _ (T196.setTop (mkF m 64 #[.val (.int p1), .val (.long q2), .second, .val (.long q3), .second, .val (.long q4), .second, .val (.long q5), .second, .val (.int (2 : Int32)), .val (.ref b185), .val (.ref b196), .unset, .unset, .unset] []))
    obtain ⟨T202, h202, X202, e202, E202, A202, D202, -, st202⟩ := newO X196 hx hZ hown (hw _ (List.mem_of_getElem? (i := 2) rfl)) (hw _ (List.mem_of_getElem? (i := 3) rfl)) (hw _ (List.mem_of_getElem? (i := 4) rfl)) e196 (g := (mkF m 64 #[.val (.int p1), .val (.long q2), .second, .val (.long q3), .second, .val (.long q4), .second, .val (.long q5), .second, .val (.int (2 : Int32)), .val (.ref b185), .val (.ref b196), .unset, .unset, .unset] [])) rfl (hb hby at_64) (by decide) (by decide)
    obtain ⟨b202, gq202⟩ : ∃ z, z = h196.size := ⟨_, rfl⟩
    rw [← gq202] at A202 D202 st202
    have ne203 : b185 ≠ b202 := Nat.ne_of_lt (Nat.lt_of_lt_of_le f199.lt (Nat.le_of_eq gq202.symm))
    have ne204 : b196 ≠ b202 := Nat.ne_of_lt (Nat.lt_of_lt_of_le B196.lt (Nat.le_of_eq gq202.symm))
    have f205 : Sta Z h202 "java/util/ArrayList" "DEFAULTCAPACITY_EMPTY_ELEMENTDATA" "[Ljava/lang/Object;" (.ref dea) := f198.ext E202
    have f206 : Exa Z h202 b185 "[J" := f199.ext E202
    have f207 : Ax Z h202 b185 .long [(.long q2), (.long q3)] := f200.ext E202
    have f208 : Exa Z h202 b196 "[J" := B196.ext E202
    have f209 : Ax Z h202 b196 .long [(.long (0 : Int64))] := f201.ext E202
    have g_b202 : n0 ≤ b202 := Nat.le_trans Z196 (Nat.le_of_eq gq202.symm)
    have Z202 : n0 ≤ h202.size := Nat.le_trans Z196 E202.1
    have f210 : Fld Z h202 b202 "com/example/stowage/stowage/solve/HostLoad" "vms" "Ljava/util/List;" .null := D202 (Or.inr (hw _ (List.mem_of_getElem? (i := 36) rfl))) (ty := (.object "java/util/List")) (by decide)
    have f211 : Fld Z h202 b202 "com/example/stowage/stowage/solve/HostLoad" "requests" "Ljava/util/List;" .null := D202 (Or.inr (hw _ (List.mem_of_getElem? (i := 38) rfl))) (ty := (.object "java/util/List")) (by decide)
    have f212 : Fld Z h202 b202 "com/example/stowage/stowage/solve/HostLoad" "vmDisks" "Ljava/util/List;" .null := D202 (Or.inr (hw _ (List.mem_of_getElem? (i := 40) rfl))) (ty := (.object "java/util/List")) (by decide)
    have f213 : Fld Z h202 b202 "com/example/stowage/stowage/solve/HostLoad" "ruled" "Ljava/util/Map;" .null := D202 (Or.inr (hw _ (List.mem_of_getElem? (i := 58) rfl))) (ty := (.object "java/util/Map")) (by decide)
    have f214 : Fld Z h202 b202 "com/example/stowage/stowage/solve/HostLoad" "disks" "[J" .null := D202 (Or.inr (hw _ (List.mem_of_getElem? (i := 69) rfl))) (ty := (.array .long)) (by decide)
    have f215 : Fld Z h202 b202 "com/example/stowage/stowage/solve/HostLoad" "free" "[J" .null := D202 (Or.inr (hw _ (List.mem_of_getElem? (i := 71) rfl))) (ty := (.array .long)) (by decide)
    have f216 : Fld Z h202 b202 "com/example/stowage/stowage/solve/HostLoad" "diskFree" "[J" .null := D202 (Or.inr (hw _ (List.mem_of_getElem? (i := 73) rfl))) (ty := (.array .long)) (by decide)
    refine Done.step st202 ?_
    show Done p e below s _ _ _ (T202.setTop (mkF m 67 #[.val (.int p1), .val (.long q2), .second, .val (.long q3), .second, .val (.long q4), .second, .val (.long q5), .second, .val (.int (2 : Int32)), .val (.ref b185), .val (.ref b196), .unset, .unset, .unset] [(.ref b202)]))
    refine Done.step (fun t k => XS.dup X202.here hx rfl (hb hby at_67) rfl rfl k) ?_
    show Done p e below s _ _ _ (T202.setTop (mkF m 68 #[.val (.int p1), .val (.long q2), .second, .val (.long q3), .second, .val (.long q4), .second, .val (.long q5), .second, .val (.int (2 : Int32)), .val (.ref b185), .val (.ref b196), .unset, .unset, .unset] [(.ref b202), (.ref b202)]))
    refine Done.step (fun t k => XS.aload X202.here hx rfl (hb hby at_68) rfl rfl k) ?_
    show Done p e below s _ _ _ (T202.setTop (mkF m 70 #[.val (.int p1), .val (.long q2), .second, .val (.long q3), .second, .val (.long q4), .second, .val (.long q5), .second, .val (.int (2 : Int32)), .val (.ref b185), .val (.ref b196), .unset, .unset, .unset] [(.ref b196), (.ref b202), (.ref b202)]))
    refine Done.step (fun t k => XS.aload X202.here hx rfl (hb hby at_70) rfl rfl k) ?_
    show Done p e below s _ _ _ (T202.setTop (mkF m 72 #[.val (.int p1), .val (.long q2), .second, .val (.long q3), .second, .val (.long q4), .second, .val (.long q5), .second, .val (.int (2 : Int32)), .val (.ref b185), .val (.ref b196), .unset, .unset, .unset] [(.ref b185), (.ref b196), (.ref b202), (.ref b202)]))
    obtain ⟨v217, _, ⟨T217, L217, k217, n217⟩, -, X217, ⟨Lc217, hQ217, l217, y217, z217⟩, st217⟩ := X202.specialBack hx (y := (⟨"com/example/stowage/stowage/solve/HostLoad", "<init>", "([J[J)V"⟩ : MethodName)) rfl hown (mvT hZ (hw _ (List.mem_of_getElem? (i := 5) rfl))) (mvT hZ (hw _ (List.mem_of_getElem? (i := 6) rfl))) (mvT hZ (hw _ (List.mem_of_getElem? (i := 7) rfl))) (by decide) (backOf (W := 1) (rm1 l Z a0 hw [] b202 b196 b185 dea [q2, q3] h202 n0 Z202 A202 f210 f211 f212 f213 f214 f215 f216 g_b202 f205 f208 f209 f206 f207 (Nat.le_of_ble_eq_true rfl)) hZ (hw _ (List.mem_of_getElem? (i := 7) rfl)) (hw _ (List.mem_of_getElem? (i := 4) rfl)) (by decide) (by decide)) (g := (mkF m 72 #[.val (.int p1), .val (.long q2), .second, .val (.long q3), .second, .val (.long q4), .second, .val (.long q5), .second, .val (.int (2 : Int32)), .val (.ref b185), .val (.ref b196), .unset, .unset, .unset] [(.ref b185), (.ref b196), (.ref b202), (.ref b202)])) rfl (by rw [hml]; rfl) (Steps.refl _) (a := b202) (argsL := [(.ref b196), (.ref b185)]) (rest := [(.ref b202)]) (lenOf pd_1 rfl) rfl (by show 2 * 0 + _ ≤ _; exact Nat.le_of_eq rfl) (hb hby at_72) (fun _ _ => ⟨rfl, e202, (by decide : 3 + 7 ≤ _), (by decide : 11 + 26 ≤ _)⟩)
    dsimp only [Pt.U, Pt.locs, Pt.cells, Pt.slots] at X217 l217 y217 z217 st217 hQ217
    subst l217 y217 z217
    refine Done.far st217 ?_
    obtain ⟨rfl, N217q, K217q, x217, d217, y217, z217v, w217⟩ := hQ217
    have N217 := Fr.app N192 N217q
    have ne218 : b185 ≠ d217 := Nat.ne_of_lt (Nat.lt_of_lt_of_le f206.lt w217)
    have ne219 : b196 ≠ d217 := Nat.ne_of_lt (Nat.lt_of_lt_of_le f208.lt w217)
    have ne220 : b202 ≠ d217 := Nat.ne_of_lt (Nat.lt_of_lt_of_le A202.lt w217)
    have f221 : Sta Z T217.heap "java/util/ArrayList" "DEFAULTCAPACITY_EMPTY_ELEMENTDATA" "[Ljava/lang/Object;" (.ref dea) := own_stakeep f205 K217q (allS (own_unst A202) all0)
    have f222 : Exa Z T217.heap b185 "[J" := f206.keep K217q
    have f223 : Ax Z T217.heap b185 .long [(.long q2), (.long q3)] := f207.keep K217q (ninS ne203 nin0)
    have f224 : Exa Z T217.heap b196 "[J" := f208.keep K217q
    have f225 : Ax Z T217.heap b196 .long [(.long (0 : Int64))] := f209.keep K217q (ninS ne204 nin0)
    have f226 : Exa Z T217.heap b202 "com/example/stowage/stowage/solve/HostLoad" := A202.keep K217q
    have Zk217 : n0 ≤ T217.heap.size := Nat.le_trans Z202 K217q.1
    show Done p e below s _ _ _ (T217.setTop (mkF m 75 #[.val (.int p1), .val (.long q2), .second, .val (.long q3), .second, .val (.long q4), .second, .val (.long q5), .second, .val (.int (2 : Int32)), .val (.ref b185), .val (.ref b196), .unset, .unset, .unset] [(.ref b202)]))
    refine Done.step (fun t k => XS.astore X217.here hx rfl (hb hby at_75) rfl rfl (l' := #[.val (.int p1), .val (.long q2), .second, .val (.long q3), .second, .val (.long q4), .second, .val (.long q5), .second, .val (.int (2 : Int32)), .val (.ref b185), .val (.ref b196), .val (.ref b202), .unset, .unset]) rfl k) ?_
    show Done p e below s _ _ _ (T217.setTop (mkF m 77 #[.val (.int p1), .val (.long q2), .second, .val (.long q3), .second, .val (.long q4), .second, .val (.long q5), .second, .val (.int (2 : Int32)), .val (.ref b185), .val (.ref b196), .val (.ref b202), .unset, .unset] []))
    refine Done.step (fun t k => XS.iload X217.here hx rfl (hb hby at_77) rfl k) ?_
    show Done p e below s _ _ _ (T217.setTop (mkF m 79 #[.val (.int p1), .val (.long q2), .second, .val (.long q3), .second, .val (.long q4), .second, .val (.long q5), .second, .val (.int (2 : Int32)), .val (.ref b185), .val (.ref b196), .val (.ref b202), .unset, .unset] [(.int (2 : Int32))]))
    refine Done.step (fun t k => XS.ifNo X217.here hx rfl (hb hby at_79) rfl ((if0 _ _).trans (tlt (by decide)).2.2.2) k) ?_
    show Done p e below s _ _ _ (T217.setTop (mkF m 82 #[.val (.int p1), .val (.long q2), .second, .val (.long q3), .second, .val (.long q4), .second, .val (.long q5), .second, .val (.int (2 : Int32)), .val (.ref b185), .val (.ref b196), .val (.ref b202), .unset, .unset] []))
    refine Done.step (fun t k => XS.aload X217.here hx rfl (hb hby at_82) rfl rfl k) ?_
    show Done p e below s _ _ _ (T217.setTop (mkF m 84 #[.val (.int p1), .val (.long q2), .second, .val (.long q3), .second, .val (.long q4), .second, .val (.long q5), .second, .val (.int (2 : Int32)), .val (.ref b185), .val (.ref b196), .val (.ref b202), .unset, .unset] [(.ref b185)]))
    refine Done.step (fun t k => XS.iconst X217.here hx rfl (hb hby at_84) k) ?_
    show Done p e below s _ _ _ (T217.setTop (mkF m 85 #[.val (.int p1), .val (.long q2), .second, .val (.long q3), .second, .val (.long q4), .second, .val (.long q5), .second, .val (.int (2 : Int32)), .val (.ref b185), .val (.ref b196), .val (.ref b202), .unset, .unset] [(.int (0 : Int32)), (.ref b185)]))
    refine Done.step (fun t k => XS.lloadN X217.here hx rfl (hb hby at_85) rfl k) ?_
    show Done p e below s _ _ _ (T217.setTop (mkF m 86 #[.val (.int p1), .val (.long q2), .second, .val (.long q3), .second, .val (.long q4), .second, .val (.long q5), .second, .val (.int (2 : Int32)), .val (.ref b185), .val (.ref b196), .val (.ref b202), .unset, .unset] [(.long q2), (.int (0 : Int32)), (.ref b185)]))
    refine Done.step (fun t k => XS.lconst X217.here hx rfl (hb hby at_86) k) ?_
    show Done p e below s _ _ _ (T217.setTop (mkF m 87 #[.val (.int p1), .val (.long q2), .second, .val (.long q3), .second, .val (.long q4), .second, .val (.long q5), .second, .val (.int (2 : Int32)), .val (.ref b185), .val (.ref b196), .val (.ref b202), .unset, .unset] [(.long (1 : Int64)), (.long q2), (.int (0 : Int32)), (.ref b185)]))
    refine Done.step (fun t k => XS.lxor X217.here hx rfl (hb hby at_87) rfl k) ?_
    show Done p e below s _ _ _ (T217.setTop (mkF m 88 #[.val (.int p1), .val (.long q2), .second, .val (.long q3), .second, .val (.long q4), .second, .val (.long q5), .second, .val (.int (2 : Int32)), .val (.ref b185), .val (.ref b196), .val (.ref b202), .unset, .unset] [(.long (q2 ^^^ (1 : Int64))), (.int (0 : Int32)), (.ref b185)]))
    obtain ⟨T227, h227, X227, e227, W227, A227, st227⟩ := stoJ X217 hx hZ rfl f223 (j := (0 : Int32)) (by decide) (i := 0) (by decide) (Nat.le_of_ble_eq_true rfl) (g := (mkF m 88 #[.val (.int p1), .val (.long q2), .second, .val (.long q3), .second, .val (.long q4), .second, .val (.long q5), .second, .val (.int (2 : Int32)), .val (.ref b185), .val (.ref b196), .val (.ref b202), .unset, .unset] [(.long (q2 ^^^ (1 : Int64))), (.int (0 : Int32)), (.ref b185)])) rfl rfl (hb hby at_88)
    have f228 : Sta Z h227 "java/util/ArrayList" "DEFAULTCAPACITY_EMPTY_ELEMENTDATA" "[Ljava/lang/Object;" (.ref dea) := f221.wr W227
    have f229 : Exa Z h227 b185 "[J" := f222.wr W227
    have f230 : Ax Z h227 b185 .long [(.long (q2 ^^^ (1 : Int64))), (.long q3)] := A227
    have f231 : Exa Z h227 b196 "[J" := f224.wr W227
    have f232 : Ax Z h227 b196 .long [(.long (0 : Int64))] := f225.other W227 (Ne.symm ne197)
    have f233 : Exa Z h227 b202 "com/example/stowage/stowage/solve/HostLoad" := f226.wr W227
    have f234 : Fld Z h227 b202 "com/example/stowage/stowage/solve/HostLoad" "diskFree" "[J" (.ref d217) := y217.other W227 (Or.inl (Ne.symm ne203))
    have f235 : Ax Z h227 d217 .long [(.long q2), (.long q3)] := z217v.other W227 (Ne.symm ne218)
    have Z227 : n0 ≤ h227.size := Nat.le_trans Zk217 (Keep.of_wr W227).1
    have N227 := Fr.snoc X227 N217 g_b185
    refine Done.step st227 ?_
    show Done p e below s _ _ _ (T227.setTop (mkF m 89 #[.val (.int p1), .val (.long q2), .second, .val (.long q3), .second, .val (.long q4), .second, .val (.long q5), .second, .val (.int (2 : Int32)), .val (.ref b185), .val (.ref b196), .val (.ref b202), .unset, .unset] []))
    refine Done.step (fun t k => XS.iload X227.here hx rfl (hb hby at_89) rfl k) ?_
    show Done p e below s _ _ _ (T227.setTop (mkF m 91 #[.val (.int p1), .val (.long q2), .second, .val (.long q3), .second, .val (.long q4), .second, .val (.long q5), .second, .val (.int (2 : Int32)), .val (.ref b185), .val (.ref b196), .val (.ref b202), .unset, .unset] [(.int (2 : Int32))]))
    refine Done.step (fun t k => XS.ifNo X227.here hx rfl (hb hby at_91) rfl ((if0 _ _).trans (tlt (by decide)).2.2.2) k) ?_
    show Done p e below s _ _ _ (T227.setTop (mkF m 94 #[.val (.int p1), .val (.long q2), .second, .val (.long q3), .second, .val (.long q4), .second, .val (.long q5), .second, .val (.int (2 : Int32)), .val (.ref b185), .val (.ref b196), .val (.ref b202), .unset, .unset] []))
    refine Done.step (fun t k => XS.lloadN X227.here hx rfl (hb hby at_94) rfl k) ?_
    show Done p e below s _ _ _ (T227.setTop (mkF m 95 #[.val (.int p1), .val (.long q2), .second, .val (.long q3), .second, .val (.long q4), .second, .val (.long q5), .second, .val (.int (2 : Int32)), .val (.ref b185), .val (.ref b196), .val (.ref b202), .unset, .unset] [(.long q2)]))
    refine Done.step (fun t k => XS.goto X227.here hx rfl (pc0 := 95) (pc' := 99) rfl (hb hby at_95) (by decide) (by decide) k) ?_
    show Done p e below s _ _ _ (T227.setTop (mkF m 99 #[.val (.int p1), .val (.long q2), .second, .val (.long q3), .second, .val (.long q4), .second, .val (.long q5), .second, .val (.int (2 : Int32)), .val (.ref b185), .val (.ref b196), .val (.ref b202), .unset, .unset] [(.long q2)]))
    refine Done.step (fun t k => XS.iload X227.here hx rfl (hb hby at_99) rfl k) ?_
    show Done p e below s _ _ _ (T227.setTop (mkF m 101 #[.val (.int p1), .val (.long q2), .second, .val (.long q3), .second, .val (.long q4), .second, .val (.long q5), .second, .val (.int (2 : Int32)), .val (.ref b185), .val (.ref b196), .val (.ref b202), .unset, .unset] [(.int (2 : Int32)), (.long q2)]))
    refine Done.step (fun t k => XS.iconst X227.here hx rfl (hb hby at_101) k) ?_
    show Done p e below s _ _ _ (T227.setTop (mkF m 102 #[.val (.int p1), .val (.long q2), .second, .val (.long q3), .second, .val (.long q4), .second, .val (.long q5), .second, .val (.int (2 : Int32)), .val (.ref b185), .val (.ref b196), .val (.ref b202), .unset, .unset] [(.int (1 : Int32)), (.int (2 : Int32)), (.long q2)]))
    refine Done.step (fun t k => XS.icmpNo X227.here hx rfl (hb hby at_102) rfl (tlt (by decide)).2.2.2 k) ?_
    show Done p e below s _ _ _ (T227.setTop (mkF m 105 #[.val (.int p1), .val (.long q2), .second, .val (.long q3), .second, .val (.long q4), .second, .val (.long q5), .second, .val (.int (2 : Int32)), .val (.ref b185), .val (.ref b196), .val (.ref b202), .unset, .unset] [(.long q2)]))
    refine Done.step (fun t k => XS.lloadN X227.here hx rfl (hb hby at_105) rfl k) ?_
    show Done p e below s _ _ _ (T227.setTop (mkF m 106 #[.val (.int p1), .val (.long q2), .second, .val (.long q3), .second, .val (.long q4), .second, .val (.long q5), .second, .val (.int (2 : Int32)), .val (.ref b185), .val (.ref b196), .val (.ref b202), .unset, .unset] [(.long q3), (.long q2)]))
    refine Done.step (fun t k => XS.goto X227.here hx rfl (pc0 := 106) (pc' := 110) rfl (hb hby at_106) (by decide) (by decide) k) ?_
    show Done p e below s _ _ _ (T227.setTop (mkF m 110 #[.val (.int p1), .val (.long q2), .second, .val (.long q3), .second, .val (.long q4), .second, .val (.long q5), .second, .val (.int (2 : Int32)), .val (.ref b185), .val (.ref b196), .val (.ref b202), .unset, .unset] [(.long q3), (.long q2)]))
    refine Done.step (fun t k => XS.ladd X227.here hx rfl (hb hby at_110) rfl k) ?_
    show Done p e below s _ _ _ (T227.setTop (mkF m 111 #[.val (.int p1), .val (.long q2), .second, .val (.long q3), .second, .val (.long q4), .second, .val (.long q5), .second, .val (.int (2 : Int32)), .val (.ref b185), .val (.ref b196), .val (.ref b202), .unset, .unset] [(.long (q2 + q3))]))
    refine Done.step (fun t k => XS.iload X227.here hx rfl (hb hby at_111) rfl k) ?_
    show Done p e below s _ _ _ (T227.setTop (mkF m 113 #[.val (.int p1), .val (.long q2), .second, .val (.long q3), .second, .val (.long q4), .second, .val (.long q5), .second, .val (.int (2 : Int32)), .val (.ref b185), .val (.ref b196), .val (.ref b202), .unset, .unset] [(.int (2 : Int32)), (.long (q2 + q3))]))
    refine Done.step (fun t k => XS.iconst X227.here hx rfl (hb hby at_113) k) ?_
    show Done p e below s _ _ _ (T227.setTop (mkF m 114 #[.val (.int p1), .val (.long q2), .second, .val (.long q3), .second, .val (.long q4), .second, .val (.long q5), .second, .val (.int (2 : Int32)), .val (.ref b185), .val (.ref b196), .val (.ref b202), .unset, .unset] [(.int (2 : Int32)), (.int (2 : Int32)), (.long (q2 + q3))]))
    refine Done.step (fun t k => XS.icmpYes X227.here hx rfl (pc0 := 114) (pc' := 122) rfl (hb hby at_114) rfl (flt (by decide)).2.2.2 (by decide) (by decide) k) ?_
    show Done p e below s _ _ _ (T227.setTop (mkF m 122 #[.val (.int p1), .val (.long q2), .second, .val (.long q3), .second, .val (.long q4), .second, .val (.long q5), .second, .val (.int (2 : Int32)), .val (.ref b185), .val (.ref b196), .val (.ref b202), .unset, .unset] [(.long (q2 + q3))]))
    refine Done.step (fun t k => XS.lconst X227.here hx rfl (hb hby at_122) k) ?_
    show Done p e below s _ _ _ (T227.setTop (mkF m 123 #[.val (.int p1), .val (.long q2), .second, .val (.long q3), .second, .val (.long q4), .second, .val (.long q5), .second, .val (.int (2 : Int32)), .val (.ref b185), .val (.ref b196), .val (.ref b202), .unset, .unset] [(.long (0 : Int64)), (.long (q2 + q3))]))
    refine Done.step (fun t k => XS.ladd X227.here hx rfl (hb hby at_123) rfl k) ?_
    show Done p e below s _ _ _ (T227.setTop (mkF m 124 #[.val (.int p1), .val (.long q2), .second, .val (.long q3), .second, .val (.long q4), .second, .val (.long q5), .second, .val (.int (2 : Int32)), .val (.ref b185), .val (.ref b196), .val (.ref b202), .unset, .unset] [(.long ((q2 + q3) + (0 : Int64)))]))
    refine Done.step (fun t k => XS.iload X227.here hx rfl (hb hby at_124) rfl k) ?_
    show Done p e below s _ _ _ (T227.setTop (mkF m 126 #[.val (.int p1), .val (.long q2), .second, .val (.long q3), .second, .val (.long q4), .second, .val (.long q5), .second, .val (.int (2 : Int32)), .val (.ref b185), .val (.ref b196), .val (.ref b202), .unset, .unset] [(.int (2 : Int32)), (.long ((q2 + q3) + (0 : Int64)))]))
    refine Done.step (fun t k => XS.iconst X227.here hx rfl (hb hby at_126) k) ?_
    show Done p e below s _ _ _ (T227.setTop (mkF m 127 #[.val (.int p1), .val (.long q2), .second, .val (.long q3), .second, .val (.long q4), .second, .val (.long q5), .second, .val (.int (2 : Int32)), .val (.ref b185), .val (.ref b196), .val (.ref b202), .unset, .unset] [(.int (3 : Int32)), (.int (2 : Int32)), (.long ((q2 + q3) + (0 : Int64)))]))
    refine Done.step (fun t k => XS.icmpYes X227.here hx rfl (pc0 := 127) (pc' := 135) rfl (hb hby at_127) rfl (flt (by decide)).2.2.2 (by decide) (by decide) k) ?_
    show Done p e below s _ _ _ (T227.setTop (mkF m 135 #[.val (.int p1), .val (.long q2), .second, .val (.long q3), .second, .val (.long q4), .second, .val (.long q5), .second, .val (.int (2 : Int32)), .val (.ref b185), .val (.ref b196), .val (.ref b202), .unset, .unset] [(.long ((q2 + q3) + (0 : Int64)))]))
    refine Done.step (fun t k => XS.lconst X227.here hx rfl (hb hby at_135) k) ?_
    show Done p e below s _ _ _ (T227.setTop (mkF m 136 #[.val (.int p1), .val (.long q2), .second, .val (.long q3), .second, .val (.long q4), .second, .val (.long q5), .second, .val (.int (2 : Int32)), .val (.ref b185), .val (.ref b196), .val (.ref b202), .unset, .unset] [(.long (0 : Int64)), (.long ((q2 + q3) + (0 : Int64)))]))
    refine Done.step (fun t k => XS.ladd X227.here hx rfl (hb hby at_136) rfl k) ?_
    show Done p e below s _ _ _ (T227.setTop (mkF m 137 #[.val (.int p1), .val (.long q2), .second, .val (.long q3), .second, .val (.long q4), .second, .val (.long q5), .second, .val (.int (2 : Int32)), .val (.ref b185), .val (.ref b196), .val (.ref b202), .unset, .unset] [(.long (((q2 + q3) + (0 : Int64)) + (0 : Int64)))]))
    refine Done.step (fun t k => XS.lstore X227.here hx rfl (hb hby at_137) rfl (l' := #[.val (.int p1), .val (.long q2), .second, .val (.long q3), .second, .val (.long q4), .second, .val (.long q5), .second, .val (.int (2 : Int32)), .val (.ref b185), .val (.ref b196), .val (.ref b202), .val (.long (((q2 + q3) + (0 : Int64)) + (0 : Int64))), .second]) rfl k) ?_
    show Done p e below s _ _ _ (T227.setTop (mkF m 139 #[.val (.int p1), .val (.long q2), .second, .val (.long q3), .second, .val (.long q4), .second, .val (.long q5), .second, .val (.int (2 : Int32)), .val (.ref b185), .val (.ref b196), .val (.ref b202), .val (.long (((q2 + q3) + (0 : Int64)) + (0 : Int64))), .second] []))
    refine Done.step (fun t k => XS.aload X227.here hx rfl (hb hby at_139) rfl rfl k) ?_
    show Done p e below s _ _ _ (T227.setTop (mkF m 141 #[.val (.int p1), .val (.long q2), .second, .val (.long q3), .second, .val (.long q4), .second, .val (.long q5), .second, .val (.int (2 : Int32)), .val (.ref b185), .val (.ref b196), .val (.ref b202), .val (.long (((q2 + q3) + (0 : Int64)) + (0 : Int64))), .second] [(.ref b202)]))
    obtain ⟨cq236, kq236, q236a, q236b, q236c⟩ := isOf hZ e227 f233
    obtain ⟨v236, _, ⟨T236, L236, k236, n236⟩, -, X236, ⟨Lc236, hQ236, l236, y236, z236⟩, st236⟩ := X227.virtualBack hx (y := (⟨"com/example/stowage/stowage/solve/HostLoad", "freeDiskSpace", "()J"⟩ : MethodName)) (z := (⟨"com/example/stowage/stowage/solve/HostLoad", "freeDiskSpace", "()J"⟩ : MethodName)) hown (mvT hZ (hw _ (List.mem_of_getElem? (i := 74) rfl))) (mvT hZ (hw _ (List.mem_of_getElem? (i := 75) rfl))) (notFace_of_selects (args := #[]) (mvT hZ (hw _ (List.mem_of_getElem? (i := 77) rfl)))) (mvT hZ (hw _ (List.mem_of_getElem? (i := 77) rfl))) (mvT hZ (hw _ (List.mem_of_getElem? (i := 76) rfl))) (by decide) (backOf (W := 0) (rm8 l Z a0 hw [] b202 d217 [q2, q3] h227 n0 Z227 f234 f235 (Nat.le_of_ble_eq_true rfl)) hZ (hw _ (List.mem_of_getElem? (i := 78) rfl)) (hw _ (List.mem_of_getElem? (i := 4) rfl)) (by decide) (by decide)) q236a q236c (g := (mkF m 141 #[.val (.int p1), .val (.long q2), .second, .val (.long q3), .second, .val (.long q4), .second, .val (.long q5), .second, .val (.int (2 : Int32)), .val (.ref b185), .val (.ref b196), .val (.ref b202), .val (.long (((q2 + q3) + (0 : Int64)) + (0 : Int64))), .second] [(.ref b202)])) rfl (by rw [hml]; rfl) (Steps.refl _) (argsL := []) (rest := []) (lenOf pd_2 rfl) rfl (by show 2 * 0 + _ ≤ _; exact Nat.le_of_eq rfl) (hb hby at_141) (fun _ _ => ⟨rfl, e227, (by decide : 10 + 0 ≤ _), (by decide : 37 + 0 ≤ _)⟩)
    dsimp only [Pt.U, Pt.locs, Pt.cells, Pt.slots] at X236 l236 y236 z236 st236 hQ236
    subst l236 y236 z236
    refine Done.far st236 ?_
    obtain ⟨rfl, N236q, e236⟩ := hQ236
    have N236 := Fr.app N227 N236q
    show Done p e below s _ _ _ (T236.setTop (mkF m 144 #[.val (.int p1), .val (.long q2), .second, .val (.long q3), .second, .val (.long q4), .second, .val (.long q5), .second, .val (.int (2 : Int32)), .val (.ref b185), .val (.ref b196), .val (.ref b202), .val (.long (((q2 + q3) + (0 : Int64)) + (0 : Int64))), .second] [(.long (List.foldl (· + ·) (0 : Int64) [q2, q3]))]))
    refine Done.step (fun t k => XS.lload X236.here hx rfl (hb hby at_144) rfl k) ?_
    show Done p e below s _ _ _ (T236.setTop (mkF m 146 #[.val (.int p1), .val (.long q2), .second, .val (.long q3), .second, .val (.long q4), .second, .val (.long q5), .second, .val (.int (2 : Int32)), .val (.ref b185), .val (.ref b196), .val (.ref b202), .val (.long (((q2 + q3) + (0 : Int64)) + (0 : Int64))), .second] [(.long (((q2 + q3) + (0 : Int64)) + (0 : Int64))), (.long (List.foldl (· + ·) (0 : Int64) [q2, q3]))]))
    refine Done.step (fun t k => XS.lcmp X236.here hx rfl (hb hby at_146) rfl k) ?_
    show Done p e below s _ _ _ (T236.setTop (mkF m 147 #[.val (.int p1), .val (.long q2), .second, .val (.long q3), .second, .val (.long q4), .second, .val (.long q5), .second, .val (.int (2 : Int32)), .val (.ref b185), .val (.ref b196), .val (.ref b202), .val (.long (((q2 + q3) + (0 : Int64)) + (0 : Int64))), .second] [(.int (lcmpW (List.foldl (· + ·) (0 : Int64) [q2, q3]) (((q2 + q3) + (0 : Int64)) + (0 : Int64))))]))
    refine Done.step (fun t k => XS.ifNo X236.here hx rfl (hb hby at_147) rfl ((if0 _ _).trans (teq ((lw_eq _ _).mpr (show (List.foldl (· + ·) (0 : Int64) [q2, q3]) = (((q2 + q3) + (0 : Int64)) + (0 : Int64)) from (by simp [List.foldl])))).2) k) ?_
    show Done p e below s _ _ _ (T236.setTop (mkF m 150 #[.val (.int p1), .val (.long q2), .second, .val (.long q3), .second, .val (.long q4), .second, .val (.long q5), .second, .val (.int (2 : Int32)), .val (.ref b185), .val (.ref b196), .val (.ref b202), .val (.long (((q2 + q3) + (0 : Int64)) + (0 : Int64))), .second] []))
    refine Done.step (fun t k => XS.iconst X236.here hx rfl (hb hby at_150) k) ?_
    show Done p e below s _ _ _ (T236.setTop (mkF m 151 #[.val (.int p1), .val (.long q2), .second, .val (.long q3), .second, .val (.long q4), .second, .val (.long q5), .second, .val (.int (2 : Int32)), .val (.ref b185), .val (.ref b196), .val (.ref b202), .val (.long (((q2 + q3) + (0 : Int64)) + (0 : Int64))), .second] [(.int (1 : Int32))]))
    refine Done.step (fun t k => XS.goto X236.here hx rfl (pc0 := 151) (pc' := 155) rfl (hb hby at_151) (by decide) (by decide) k) ?_
    show Done p e below s _ _ _ (T236.setTop (mkF m 155 #[.val (.int p1), .val (.long q2), .second, .val (.long q3), .second, .val (.long q4), .second, .val (.long q5), .second, .val (.int (2 : Int32)), .val (.ref b185), .val (.ref b196), .val (.ref b202), .val (.long (((q2 + q3) + (0 : Int64)) + (0 : Int64))), .second] [(.int (1 : Int32))]))
    exact Done.narr X236 hx hlk hret (by simp) (hb hby at_155) (by decide) (by decide) ⟨rfl, N236⟩
  · show Done p e below s _ _ _ (s₁.setTop (mkF m 8 #[.val (.int p1), .val (.long q2), .second, .val (.long q3), .second, .val (.long q4), .second, .val (.long q5), .second, .val (.int (3 : Int32)), .unset, .unset, .unset, .unset, .unset] []))
    refine Done.step (fun t k => XS.iload X0.here hx rfl (hb hby at_8) rfl k) ?_
    show Done p e below s _ _ _ (s₁.setTop (mkF m 10 #[.val (.int p1), .val (.long q2), .second, .val (.long q3), .second, .val (.long q4), .second, .val (.long q5), .second, .val (.int (3 : Int32)), .unset, .unset, .unset, .unset, .unset] [(.int (3 : Int32))]))
    obtain ⟨T237, h237, k237, X237, e237, E237, A237, B237, st237⟩ := newPE X0 hx hZ (hw _ (List.mem_of_getElem? (i := 1) rfl)) e0 (g := (mkF m 10 #[.val (.int p1), .val (.long q2), .second, .val (.long q3), .second, .val (.long q4), .second, .val (.long q5), .second, .val (.int (3 : Int32)), .unset, .unset, .unset, .unset, .unset] [(.int (3 : Int32))])) rfl (hb hby at_10) rfl (by decide) (cap := 3) (by decide) (by decide) (by decide) (by decide) (ad := "[J") (by decide)
    obtain ⟨b237, gq237⟩ : ∃ z, z = h0.size := ⟨_, rfl⟩
    rw [← gq237] at A237 B237 st237
    have f238 : Sta Z h237 "java/util/ArrayList" "DEFAULTCAPACITY_EMPTY_ELEMENTDATA" "[Ljava/lang/Object;" (.ref dea) := Sde.ext E237
    have g_b237 : n0 ≤ b237 := Nat.le_trans Z0 (Nat.le_of_eq gq237.symm)
    have Z237 : n0 ≤ h237.size := Nat.le_trans Z0 E237.1
    have f239 : Ax Z h237 b237 .long [(.long (0 : Int64)), (.long (0 : Int64)), (.long (0 : Int64))] := Ax.new (ty := .long) (i := 3) A237 (by decide)
    refine Done.step st237 ?_
    show Done p e below s _ _ _ (T237.setTop (mkF m 12 #[.val (.int p1), .val (.long q2), .second, .val (.long q3), .second, .val (.long q4), .second, .val (.long q5), .second, .val (.int (3 : Int32)), .unset, .unset, .unset, .unset, .unset] [(.ref b237)]))
    refine Done.step (fun t k => XS.astore X237.here hx rfl (hb hby at_12) rfl rfl (l' := #[.val (.int p1), .val (.long q2), .second, .val (.long q3), .second, .val (.long q4), .second, .val (.long q5), .second, .val (.int (3 : Int32)), .val (.ref b237), .unset, .unset, .unset, .unset]) rfl k) ?_
    show Done p e below s _ _ _ (T237.setTop (mkF m 14 #[.val (.int p1), .val (.long q2), .second, .val (.long q3), .second, .val (.long q4), .second, .val (.long q5), .second, .val (.int (3 : Int32)), .val (.ref b237), .unset, .unset, .unset, .unset] []))
    refine Done.step (fun t k => XS.iload X237.here hx rfl (hb hby at_14) rfl k) ?_
    show Done p e below s _ _ _ (T237.setTop (mkF m 16 #[.val (.int p1), .val (.long q2), .second, .val (.long q3), .second, .val (.long q4), .second, .val (.long q5), .second, .val (.int (3 : Int32)), .val (.ref b237), .unset, .unset, .unset, .unset] [(.int (3 : Int32))]))
    refine Done.step (fun t k => XS.ifNo X237.here hx rfl (hb hby at_16) rfl ((if0 _ _).trans (tlt (by decide)).2.2.2) k) ?_
    show Done p e below s _ _ _ (T237.setTop (mkF m 19 #[.val (.int p1), .val (.long q2), .second, .val (.long q3), .second, .val (.long q4), .second, .val (.long q5), .second, .val (.int (3 : Int32)), .val (.ref b237), .unset, .unset, .unset, .unset] []))
    refine Done.step (fun t k => XS.aload X237.here hx rfl (hb hby at_19) rfl rfl k) ?_
    show Done p e below s _ _ _ (T237.setTop (mkF m 21 #[.val (.int p1), .val (.long q2), .second, .val (.long q3), .second, .val (.long q4), .second, .val (.long q5), .second, .val (.int (3 : Int32)), .val (.ref b237), .unset, .unset, .unset, .unset] [(.ref b237)]))
    refine Done.step (fun t k => XS.iconst X237.here hx rfl (hb hby at_21) k) ?_
    show Done p e below s _ _ _ (T237.setTop (mkF m 22 #[.val (.int p1), .val (.long q2), .second, .val (.long q3), .second, .val (.long q4), .second, .val (.long q5), .second, .val (.int (3 : Int32)), .val (.ref b237), .unset, .unset, .unset, .unset] [(.int (0 : Int32)), (.ref b237)]))
    refine Done.step (fun t k => XS.lloadN X237.here hx rfl (hb hby at_22) rfl k) ?_
    show Done p e below s _ _ _ (T237.setTop (mkF m 23 #[.val (.int p1), .val (.long q2), .second, .val (.long q3), .second, .val (.long q4), .second, .val (.long q5), .second, .val (.int (3 : Int32)), .val (.ref b237), .unset, .unset, .unset, .unset] [(.long q2), (.int (0 : Int32)), (.ref b237)]))
    obtain ⟨T240, h240, X240, e240, W240, A240, st240⟩ := stoJ X237 hx hZ e237 f239 (j := (0 : Int32)) (by decide) (i := 0) (by decide) (Nat.le_of_ble_eq_true rfl) (g := (mkF m 23 #[.val (.int p1), .val (.long q2), .second, .val (.long q3), .second, .val (.long q4), .second, .val (.long q5), .second, .val (.int (3 : Int32)), .val (.ref b237), .unset, .unset, .unset, .unset] [(.long q2), (.int (0 : Int32)), (.ref b237)])) rfl rfl (hb hby at_23)
    have f241 : Sta Z h240 "java/util/ArrayList" "DEFAULTCAPACITY_EMPTY_ELEMENTDATA" "[Ljava/lang/Object;" (.ref dea) := f238.wr W240
    have f242 : Exa Z h240 b237 "[J" := B237.wr W240
    have f243 : Ax Z h240 b237 .long [(.long q2), (.long (0 : Int64)), (.long (0 : Int64))] := A240
    have Z240 : n0 ≤ h240.size := Nat.le_trans Z237 (Keep.of_wr W240).1
    have N240 := Fr.snoc X240 N0 g_b237
    refine Done.step st240 ?_
    show Done p e below s _ _ _ (T240.setTop (mkF m 24 #[.val (.int p1), .val (.long q2), .second, .val (.long q3), .second, .val (.long q4), .second, .val (.long q5), .second, .val (.int (3 : Int32)), .val (.ref b237), .unset, .unset, .unset, .unset] []))
    refine Done.step (fun t k => XS.iload X240.here hx rfl (hb hby at_24) rfl k) ?_
    show Done p e below s _ _ _ (T240.setTop (mkF m 26 #[.val (.int p1), .val (.long q2), .second, .val (.long q3), .second, .val (.long q4), .second, .val (.long q5), .second, .val (.int (3 : Int32)), .val (.ref b237), .unset, .unset, .unset, .unset] [(.int (3 : Int32))]))
    refine Done.step (fun t k => XS.iconst X240.here hx rfl (hb hby at_26) k) ?_
    show Done p e below s _ _ _ (T240.setTop (mkF m 27 #[.val (.int p1), .val (.long q2), .second, .val (.long q3), .second, .val (.long q4), .second, .val (.long q5), .second, .val (.int (3 : Int32)), .val (.ref b237), .unset, .unset, .unset, .unset] [(.int (1 : Int32)), (.int (3 : Int32))]))
    refine Done.step (fun t k => XS.icmpNo X240.here hx rfl (hb hby at_27) rfl (tlt (by decide)).2.2.2 k) ?_
    show Done p e below s _ _ _ (T240.setTop (mkF m 30 #[.val (.int p1), .val (.long q2), .second, .val (.long q3), .second, .val (.long q4), .second, .val (.long q5), .second, .val (.int (3 : Int32)), .val (.ref b237), .unset, .unset, .unset, .unset] []))
    refine Done.step (fun t k => XS.aload X240.here hx rfl (hb hby at_30) rfl rfl k) ?_
    show Done p e below s _ _ _ (T240.setTop (mkF m 32 #[.val (.int p1), .val (.long q2), .second, .val (.long q3), .second, .val (.long q4), .second, .val (.long q5), .second, .val (.int (3 : Int32)), .val (.ref b237), .unset, .unset, .unset, .unset] [(.ref b237)]))
    refine Done.step (fun t k => XS.iconst X240.here hx rfl (hb hby at_32) k) ?_
    show Done p e below s _ _ _ (T240.setTop (mkF m 33 #[.val (.int p1), .val (.long q2), .second, .val (.long q3), .second, .val (.long q4), .second, .val (.long q5), .second, .val (.int (3 : Int32)), .val (.ref b237), .unset, .unset, .unset, .unset] [(.int (1 : Int32)), (.ref b237)]))
    refine Done.step (fun t k => XS.lloadN X240.here hx rfl (hb hby at_33) rfl k) ?_
    show Done p e below s _ _ _ (T240.setTop (mkF m 34 #[.val (.int p1), .val (.long q2), .second, .val (.long q3), .second, .val (.long q4), .second, .val (.long q5), .second, .val (.int (3 : Int32)), .val (.ref b237), .unset, .unset, .unset, .unset] [(.long q3), (.int (1 : Int32)), (.ref b237)]))
    obtain ⟨T244, h244, X244, e244, W244, A244, st244⟩ := stoJ X240 hx hZ e240 f243 (j := (1 : Int32)) (by decide) (i := 1) (by decide) (Nat.le_of_ble_eq_true rfl) (g := (mkF m 34 #[.val (.int p1), .val (.long q2), .second, .val (.long q3), .second, .val (.long q4), .second, .val (.long q5), .second, .val (.int (3 : Int32)), .val (.ref b237), .unset, .unset, .unset, .unset] [(.long q3), (.int (1 : Int32)), (.ref b237)])) rfl rfl (hb hby at_34)
    have f245 : Sta Z h244 "java/util/ArrayList" "DEFAULTCAPACITY_EMPTY_ELEMENTDATA" "[Ljava/lang/Object;" (.ref dea) := f241.wr W244
    have f246 : Exa Z h244 b237 "[J" := f242.wr W244
    have f247 : Ax Z h244 b237 .long [(.long q2), (.long q3), (.long (0 : Int64))] := A244
    have Z244 : n0 ≤ h244.size := Nat.le_trans Z240 (Keep.of_wr W244).1
    have N244 := Fr.snoc X244 N240 g_b237
    refine Done.step st244 ?_
    show Done p e below s _ _ _ (T244.setTop (mkF m 35 #[.val (.int p1), .val (.long q2), .second, .val (.long q3), .second, .val (.long q4), .second, .val (.long q5), .second, .val (.int (3 : Int32)), .val (.ref b237), .unset, .unset, .unset, .unset] []))
    refine Done.step (fun t k => XS.iload X244.here hx rfl (hb hby at_35) rfl k) ?_
    show Done p e below s _ _ _ (T244.setTop (mkF m 37 #[.val (.int p1), .val (.long q2), .second, .val (.long q3), .second, .val (.long q4), .second, .val (.long q5), .second, .val (.int (3 : Int32)), .val (.ref b237), .unset, .unset, .unset, .unset] [(.int (3 : Int32))]))
    refine Done.step (fun t k => XS.iconst X244.here hx rfl (hb hby at_37) k) ?_
    show Done p e below s _ _ _ (T244.setTop (mkF m 38 #[.val (.int p1), .val (.long q2), .second, .val (.long q3), .second, .val (.long q4), .second, .val (.long q5), .second, .val (.int (3 : Int32)), .val (.ref b237), .unset, .unset, .unset, .unset] [(.int (2 : Int32)), (.int (3 : Int32))]))
    refine Done.step (fun t k => XS.icmpNo X244.here hx rfl (hb hby at_38) rfl (tlt (by decide)).2.2.2 k) ?_
    show Done p e below s _ _ _ (T244.setTop (mkF m 41 #[.val (.int p1), .val (.long q2), .second, .val (.long q3), .second, .val (.long q4), .second, .val (.long q5), .second, .val (.int (3 : Int32)), .val (.ref b237), .unset, .unset, .unset, .unset] []))
    refine Done.step (fun t k => XS.aload X244.here hx rfl (hb hby at_41) rfl rfl k) ?_
    show Done p e below s _ _ _ (T244.setTop (mkF m 43 #[.val (.int p1), .val (.long q2), .second, .val (.long q3), .second, .val (.long q4), .second, .val (.long q5), .second, .val (.int (3 : Int32)), .val (.ref b237), .unset, .unset, .unset, .unset] [(.ref b237)]))
    refine Done.step (fun t k => XS.iconst X244.here hx rfl (hb hby at_43) k) ?_
    show Done p e below s _ _ _ (T244.setTop (mkF m 44 #[.val (.int p1), .val (.long q2), .second, .val (.long q3), .second, .val (.long q4), .second, .val (.long q5), .second, .val (.int (3 : Int32)), .val (.ref b237), .unset, .unset, .unset, .unset] [(.int (2 : Int32)), (.ref b237)]))
    refine Done.step (fun t k => XS.lload X244.here hx rfl (hb hby at_44) rfl k) ?_
    show Done p e below s _ _ _ (T244.setTop (mkF m 46 #[.val (.int p1), .val (.long q2), .second, .val (.long q3), .second, .val (.long q4), .second, .val (.long q5), .second, .val (.int (3 : Int32)), .val (.ref b237), .unset, .unset, .unset, .unset] [(.long q4), (.int (2 : Int32)), (.ref b237)]))
    obtain ⟨T248, h248, X248, e248, W248, A248, st248⟩ := stoJ X244 hx hZ e244 f247 (j := (2 : Int32)) (by decide) (i := 2) (by decide) (Nat.le_of_ble_eq_true rfl) (g := (mkF m 46 #[.val (.int p1), .val (.long q2), .second, .val (.long q3), .second, .val (.long q4), .second, .val (.long q5), .second, .val (.int (3 : Int32)), .val (.ref b237), .unset, .unset, .unset, .unset] [(.long q4), (.int (2 : Int32)), (.ref b237)])) rfl rfl (hb hby at_46)
    have f249 : Sta Z h248 "java/util/ArrayList" "DEFAULTCAPACITY_EMPTY_ELEMENTDATA" "[Ljava/lang/Object;" (.ref dea) := f245.wr W248
    have f250 : Exa Z h248 b237 "[J" := f246.wr W248
    have f251 : Ax Z h248 b237 .long [(.long q2), (.long q3), (.long q4)] := A248
    have Z248 : n0 ≤ h248.size := Nat.le_trans Z244 (Keep.of_wr W248).1
    have N248 := Fr.snoc X248 N244 g_b237
    refine Done.step st248 ?_
    show Done p e below s _ _ _ (T248.setTop (mkF m 47 #[.val (.int p1), .val (.long q2), .second, .val (.long q3), .second, .val (.long q4), .second, .val (.long q5), .second, .val (.int (3 : Int32)), .val (.ref b237), .unset, .unset, .unset, .unset] []))
    refine Done.step (fun t k => XS.iload X248.here hx rfl (hb hby at_47) rfl k) ?_
    show Done p e below s _ _ _ (T248.setTop (mkF m 49 #[.val (.int p1), .val (.long q2), .second, .val (.long q3), .second, .val (.long q4), .second, .val (.long q5), .second, .val (.int (3 : Int32)), .val (.ref b237), .unset, .unset, .unset, .unset] [(.int (3 : Int32))]))
    refine Done.step (fun t k => XS.iconst X248.here hx rfl (hb hby at_49) k) ?_
    show Done p e below s _ _ _ (T248.setTop (mkF m 50 #[.val (.int p1), .val (.long q2), .second, .val (.long q3), .second, .val (.long q4), .second, .val (.long q5), .second, .val (.int (3 : Int32)), .val (.ref b237), .unset, .unset, .unset, .unset] [(.int (3 : Int32)), (.int (3 : Int32))]))
    refine Done.step (fun t k => XS.icmpYes X248.here hx rfl (pc0 := 50) (pc' := 59) rfl (hb hby at_50) rfl (flt (by decide)).2.2.2 (by decide) (by decide) k) ?_
    show Done p e below s _ _ _ (T248.setTop (mkF m 59 #[.val (.int p1), .val (.long q2), .second, .val (.long q3), .second, .val (.long q4), .second, .val (.long q5), .second, .val (.int (3 : Int32)), .val (.ref b237), .unset, .unset, .unset, .unset] []))
    refine Done.step (fun t k => XS.iconst X248.here hx rfl (hb hby at_59) k) ?_
    show Done p e below s _ _ _ (T248.setTop (mkF m 60 #[.val (.int p1), .val (.long q2), .second, .val (.long q3), .second, .val (.long q4), .second, .val (.long q5), .second, .val (.int (3 : Int32)), .val (.ref b237), .unset, .unset, .unset, .unset] [(.int (1 : Int32))]))
    obtain ⟨T252, h252, k252, X252, e252, E252, A252, B252, st252⟩ := newPE X248 hx hZ (hw _ (List.mem_of_getElem? (i := 1) rfl)) e248 (g := (mkF m 60 #[.val (.int p1), .val (.long q2), .second, .val (.long q3), .second, .val (.long q4), .second, .val (.long q5), .second, .val (.int (3 : Int32)), .val (.ref b237), .unset, .unset, .unset, .unset] [(.int (1 : Int32))])) rfl (hb hby at_60) rfl (by decide) (cap := 1) (by decide) (by decide) (by decide) (by decide) (ad := "[J") (by decide)
    obtain ⟨b252, gq252⟩ : ∃ z, z = h248.size := ⟨_, rfl⟩
    rw [← gq252] at A252 B252 st252
    have ne253 : b237 ≠ b252 := Nat.ne_of_lt (Nat.lt_of_lt_of_le f250.lt (Nat.le_of_eq gq252.symm))
    have f254 : Sta Z h252 "java/util/ArrayList" "DEFAULTCAPACITY_EMPTY_ELEMENTDATA" "[Ljava/lang/Object;" (.ref dea) := f249.ext E252
    have f255 : Exa Z h252 b237 "[J" := f250.ext E252
    have f256 : Ax Z h252 b237 .long [(.long q2), (.long q3), (.long q4)] := f251.ext E252
    have g_b252 : n0 ≤ b252 := Nat.le_trans Z248 (Nat.le_of_eq gq252.symm)
    have Z252 : n0 ≤ h252.size := Nat.le_trans Z248 E252.1
    have f257 : Ax Z h252 b252 .long [(.long (0 : Int64))] := Ax.new (ty := .long) (i := 1) A252 (by decide)
    refine Done.step st252 ?_
    show Done p e below s _ _ _ (T252.setTop (mkF m 62 #[.val (.int p1), .val (.long q2), .second, .val (.long q3), .second, .val (.long q4), .second, .val (.long q5), .second, .val (.int (3 : Int32)), .val (.ref b237), .unset, .unset, .unset, .unset] [(.ref b252)]))
    refine Done.step (fun t k => XS.astore X252.here hx rfl (hb hby at_62) rfl rfl (l' := #[.val (.int p1), .val (.long q2), .second, .val (.long q3), .second, .val (.long q4), .second, .val (.long q5), .second, .val (.int (3 : Int32)), .val (.ref b237), .val (.ref b252), .unset, .unset, .unset]) rfl k) ?_
    show Done p e below s _ _ _ (T252.setTop (mkF m 64 #[.val (.int p1), .val (.long q2), .second, .val (.long q3), .second, .val (.long q4), .second, .val (.long q5), .second, .val (.int (3 : Int32)), .val (.ref b237), .val (.ref b252), .unset, .unset, .unset] []))
    obtain ⟨T258, h258, X258, e258, E258, A258, D258, -, st258⟩ := newO X252 hx hZ hown (hw _ (List.mem_of_getElem? (i := 2) rfl)) (hw _ (List.mem_of_getElem? (i := 3) rfl)) (hw _ (List.mem_of_getElem? (i := 4) rfl)) e252 (g := (mkF m 64 #[.val (.int p1), .val (.long q2), .second, .val (.long q3), .second, .val (.long q4), .second, .val (.long q5), .second, .val (.int (3 : Int32)), .val (.ref b237), .val (.ref b252), .unset, .unset, .unset] [])) rfl (hb hby at_64) (by decide) (by decide)
    obtain ⟨b258, gq258⟩ : ∃ z, z = h252.size := ⟨_, rfl⟩
    rw [← gq258] at A258 D258 st258
    have ne259 : b237 ≠ b258 := Nat.ne_of_lt (Nat.lt_of_lt_of_le f255.lt (Nat.le_of_eq gq258.symm))
    have ne260 : b252 ≠ b258 := Nat.ne_of_lt (Nat.lt_of_lt_of_le B252.lt (Nat.le_of_eq gq258.symm))
    have f261 : Sta Z h258 "java/util/ArrayList" "DEFAULTCAPACITY_EMPTY_ELEMENTDATA" "[Ljava/lang/Object;" (.ref dea) := f254.ext E258
    have f262 : Exa Z h258 b237 "[J" := f255.ext E258
    have f263 : Ax Z h258 b237 .long [(.long q2), (.long q3), (.long q4)] := f256.ext E258
    have f264 : Exa Z h258 b252 "[J" := B252.ext E258
    have f265 : Ax Z h258 b252 .long [(.long (0 : Int64))] := f257.ext E258
    have g_b258 : n0 ≤ b258 := Nat.le_trans Z252 (Nat.le_of_eq gq258.symm)
    have Z258 : n0 ≤ h258.size := Nat.le_trans Z252 E258.1
    have f266 : Fld Z h258 b258 "com/example/stowage/stowage/solve/HostLoad" "vms" "Ljava/util/List;" .null := D258 (Or.inr (hw _ (List.mem_of_getElem? (i := 36) rfl))) (ty := (.object "java/util/List")) (by decide)
    have f267 : Fld Z h258 b258 "com/example/stowage/stowage/solve/HostLoad" "requests" "Ljava/util/List;" .null := D258 (Or.inr (hw _ (List.mem_of_getElem? (i := 38) rfl))) (ty := (.object "java/util/List")) (by decide)
    have f268 : Fld Z h258 b258 "com/example/stowage/stowage/solve/HostLoad" "vmDisks" "Ljava/util/List;" .null := D258 (Or.inr (hw _ (List.mem_of_getElem? (i := 40) rfl))) (ty := (.object "java/util/List")) (by decide)
    have f269 : Fld Z h258 b258 "com/example/stowage/stowage/solve/HostLoad" "ruled" "Ljava/util/Map;" .null := D258 (Or.inr (hw _ (List.mem_of_getElem? (i := 58) rfl))) (ty := (.object "java/util/Map")) (by decide)
    have f270 : Fld Z h258 b258 "com/example/stowage/stowage/solve/HostLoad" "disks" "[J" .null := D258 (Or.inr (hw _ (List.mem_of_getElem? (i := 69) rfl))) (ty := (.array .long)) (by decide)
    have f271 : Fld Z h258 b258 "com/example/stowage/stowage/solve/HostLoad" "free" "[J" .null := D258 (Or.inr (hw _ (List.mem_of_getElem? (i := 71) rfl))) (ty := (.array .long)) (by decide)
    have f272 : Fld Z h258 b258 "com/example/stowage/stowage/solve/HostLoad" "diskFree" "[J" .null := D258 (Or.inr (hw _ (List.mem_of_getElem? (i := 73) rfl))) (ty := (.array .long)) (by decide)
    refine Done.step st258 ?_
    show Done p e below s _ _ _ (T258.setTop (mkF m 67 #[.val (.int p1), .val (.long q2), .second, .val (.long q3), .second, .val (.long q4), .second, .val (.long q5), .second, .val (.int (3 : Int32)), .val (.ref b237), .val (.ref b252), .unset, .unset, .unset] [(.ref b258)]))
    refine Done.step (fun t k => XS.dup X258.here hx rfl (hb hby at_67) rfl rfl k) ?_
    show Done p e below s _ _ _ (T258.setTop (mkF m 68 #[.val (.int p1), .val (.long q2), .second, .val (.long q3), .second, .val (.long q4), .second, .val (.long q5), .second, .val (.int (3 : Int32)), .val (.ref b237), .val (.ref b252), .unset, .unset, .unset] [(.ref b258), (.ref b258)]))
    refine Done.step (fun t k => XS.aload X258.here hx rfl (hb hby at_68) rfl rfl k) ?_
    show Done p e below s _ _ _ (T258.setTop (mkF m 70 #[.val (.int p1), .val (.long q2), .second, .val (.long q3), .second, .val (.long q4), .second, .val (.long q5), .second, .val (.int (3 : Int32)), .val (.ref b237), .val (.ref b252), .unset, .unset, .unset] [(.ref b252), (.ref b258), (.ref b258)]))
    refine Done.step (fun t k => XS.aload X258.here hx rfl (hb hby at_70) rfl rfl k) ?_
    show Done p e below s _ _ _ (T258.setTop (mkF m 72 #[.val (.int p1), .val (.long q2), .second, .val (.long q3), .second, .val (.long q4), .second, .val (.long q5), .second, .val (.int (3 : Int32)), .val (.ref b237), .val (.ref b252), .unset, .unset, .unset] [(.ref b237), (.ref b252), (.ref b258), (.ref b258)]))
    obtain ⟨v273, _, ⟨T273, L273, k273, n273⟩, -, X273, ⟨Lc273, hQ273, l273, y273, z273⟩, st273⟩ := X258.specialBack hx (y := (⟨"com/example/stowage/stowage/solve/HostLoad", "<init>", "([J[J)V"⟩ : MethodName)) rfl hown (mvT hZ (hw _ (List.mem_of_getElem? (i := 5) rfl))) (mvT hZ (hw _ (List.mem_of_getElem? (i := 6) rfl))) (mvT hZ (hw _ (List.mem_of_getElem? (i := 7) rfl))) (by decide) (backOf (W := 1) (rm1 l Z a0 hw [] b258 b252 b237 dea [q2, q3, q4] h258 n0 Z258 A258 f266 f267 f268 f269 f270 f271 f272 g_b258 f261 f264 f265 f262 f263 (Nat.le_of_ble_eq_true rfl)) hZ (hw _ (List.mem_of_getElem? (i := 7) rfl)) (hw _ (List.mem_of_getElem? (i := 4) rfl)) (by decide) (by decide)) (g := (mkF m 72 #[.val (.int p1), .val (.long q2), .second, .val (.long q3), .second, .val (.long q4), .second, .val (.long q5), .second, .val (.int (3 : Int32)), .val (.ref b237), .val (.ref b252), .unset, .unset, .unset] [(.ref b237), (.ref b252), (.ref b258), (.ref b258)])) rfl (by rw [hml]; rfl) (Steps.refl _) (a := b258) (argsL := [(.ref b252), (.ref b237)]) (rest := [(.ref b258)]) (lenOf pd_1 rfl) rfl (by show 2 * 0 + _ ≤ _; exact Nat.le_of_eq rfl) (hb hby at_72) (fun _ _ => ⟨rfl, e258, (by decide : 3 + 7 ≤ _), (by decide : 12 + 26 ≤ _)⟩)
    dsimp only [Pt.U, Pt.locs, Pt.cells, Pt.slots] at X273 l273 y273 z273 st273 hQ273
    subst l273 y273 z273
    refine Done.far st273 ?_
    obtain ⟨rfl, N273q, K273q, x273, d273, y273, z273v, w273⟩ := hQ273
    have N273 := Fr.app N248 N273q
    have ne274 : b237 ≠ d273 := Nat.ne_of_lt (Nat.lt_of_lt_of_le f262.lt w273)
    have ne275 : b252 ≠ d273 := Nat.ne_of_lt (Nat.lt_of_lt_of_le f264.lt w273)
    have ne276 : b258 ≠ d273 := Nat.ne_of_lt (Nat.lt_of_lt_of_le A258.lt w273)
    have f277 : Sta Z T273.heap "java/util/ArrayList" "DEFAULTCAPACITY_EMPTY_ELEMENTDATA" "[Ljava/lang/Object;" (.ref dea) := own_stakeep f261 K273q (allS (own_unst A258) all0)
    have f278 : Exa Z T273.heap b237 "[J" := f262.keep K273q
    have f279 : Ax Z T273.heap b237 .long [(.long q2), (.long q3), (.long q4)] := f263.keep K273q (ninS ne259 nin0)
    have f280 : Exa Z T273.heap b252 "[J" := f264.keep K273q
    have f281 : Ax Z T273.heap b252 .long [(.long (0 : Int64))] := f265.keep K273q (ninS ne260 nin0)
    have f282 : Exa Z T273.heap b258 "com/example/stowage/stowage/solve/HostLoad" := A258.keep K273q
    have Zk273 : n0 ≤ T273.heap.size := Nat.le_trans Z258 K273q.1
    show Done p e below s _ _ _ (T273.setTop (mkF m 75 #[.val (.int p1), .val (.long q2), .second, .val (.long q3), .second, .val (.long q4), .second, .val (.long q5), .second, .val (.int (3 : Int32)), .val (.ref b237), .val (.ref b252), .unset, .unset, .unset] [(.ref b258)]))
    refine Done.step (fun t k => XS.astore X273.here hx rfl (hb hby at_75) rfl rfl (l' := #[.val (.int p1), .val (.long q2), .second, .val (.long q3), .second, .val (.long q4), .second, .val (.long q5), .second, .val (.int (3 : Int32)), .val (.ref b237), .val (.ref b252), .val (.ref b258), .unset, .unset]) rfl k) ?_
    show Done p e below s _ _ _ (T273.setTop (mkF m 77 #[.val (.int p1), .val (.long q2), .second, .val (.long q3), .second, .val (.long q4), .second, .val (.long q5), .second, .val (.int (3 : Int32)), .val (.ref b237), .val (.ref b252), .val (.ref b258), .unset, .unset] []))
    refine Done.step (fun t k => XS.iload X273.here hx rfl (hb hby at_77) rfl k) ?_
    show Done p e below s _ _ _ (T273.setTop (mkF m 79 #[.val (.int p1), .val (.long q2), .second, .val (.long q3), .second, .val (.long q4), .second, .val (.long q5), .second, .val (.int (3 : Int32)), .val (.ref b237), .val (.ref b252), .val (.ref b258), .unset, .unset] [(.int (3 : Int32))]))
    refine Done.step (fun t k => XS.ifNo X273.here hx rfl (hb hby at_79) rfl ((if0 _ _).trans (tlt (by decide)).2.2.2) k) ?_
    show Done p e below s _ _ _ (T273.setTop (mkF m 82 #[.val (.int p1), .val (.long q2), .second, .val (.long q3), .second, .val (.long q4), .second, .val (.long q5), .second, .val (.int (3 : Int32)), .val (.ref b237), .val (.ref b252), .val (.ref b258), .unset, .unset] []))
    refine Done.step (fun t k => XS.aload X273.here hx rfl (hb hby at_82) rfl rfl k) ?_
    show Done p e below s _ _ _ (T273.setTop (mkF m 84 #[.val (.int p1), .val (.long q2), .second, .val (.long q3), .second, .val (.long q4), .second, .val (.long q5), .second, .val (.int (3 : Int32)), .val (.ref b237), .val (.ref b252), .val (.ref b258), .unset, .unset] [(.ref b237)]))
    refine Done.step (fun t k => XS.iconst X273.here hx rfl (hb hby at_84) k) ?_
    show Done p e below s _ _ _ (T273.setTop (mkF m 85 #[.val (.int p1), .val (.long q2), .second, .val (.long q3), .second, .val (.long q4), .second, .val (.long q5), .second, .val (.int (3 : Int32)), .val (.ref b237), .val (.ref b252), .val (.ref b258), .unset, .unset] [(.int (0 : Int32)), (.ref b237)]))
    refine Done.step (fun t k => XS.lloadN X273.here hx rfl (hb hby at_85) rfl k) ?_
    show Done p e below s _ _ _ (T273.setTop (mkF m 86 #[.val (.int p1), .val (.long q2), .second, .val (.long q3), .second, .val (.long q4), .second, .val (.long q5), .second, .val (.int (3 : Int32)), .val (.ref b237), .val (.ref b252), .val (.ref b258), .unset, .unset] [(.long q2), (.int (0 : Int32)), (.ref b237)]))
    refine Done.step (fun t k => XS.lconst X273.here hx rfl (hb hby at_86) k) ?_
    show Done p e below s _ _ _ (T273.setTop (mkF m 87 #[.val (.int p1), .val (.long q2), .second, .val (.long q3), .second, .val (.long q4), .second, .val (.long q5), .second, .val (.int (3 : Int32)), .val (.ref b237), .val (.ref b252), .val (.ref b258), .unset, .unset] [(.long (1 : Int64)), (.long q2), (.int (0 : Int32)), (.ref b237)]))
    refine Done.step (fun t k => XS.lxor X273.here hx rfl (hb hby at_87) rfl k) ?_
    show Done p e below s _ _ _ (T273.setTop (mkF m 88 #[.val (.int p1), .val (.long q2), .second, .val (.long q3), .second, .val (.long q4), .second, .val (.long q5), .second, .val (.int (3 : Int32)), .val (.ref b237), .val (.ref b252), .val (.ref b258), .unset, .unset] [(.long (q2 ^^^ (1 : Int64))), (.int (0 : Int32)), (.ref b237)]))
    obtain ⟨T283, h283, X283, e283, W283, A283, st283⟩ := stoJ X273 hx hZ rfl f279 (j := (0 : Int32)) (by decide) (i := 0) (by decide) (Nat.le_of_ble_eq_true rfl) (g := (mkF m 88 #[.val (.int p1), .val (.long q2), .second, .val (.long q3), .second, .val (.long q4), .second, .val (.long q5), .second, .val (.int (3 : Int32)), .val (.ref b237), .val (.ref b252), .val (.ref b258), .unset, .unset] [(.long (q2 ^^^ (1 : Int64))), (.int (0 : Int32)), (.ref b237)])) rfl rfl (hb hby at_88)
    have f284 : Sta Z h283 "java/util/ArrayList" "DEFAULTCAPACITY_EMPTY_ELEMENTDATA" "[Ljava/lang/Object;" (.ref dea) := f277.wr W283
    have f285 : Exa Z h283 b237 "[J" := f278.wr W283
    have f286 : Ax Z h283 b237 .long [(.long (q2 ^^^ (1 : Int64))), (.long q3), (.long q4)] := A283
    have f287 : Exa Z h283 b252 "[J" := f280.wr W283
    have f288 : Ax Z h283 b252 .long [(.long (0 : Int64))] := f281.other W283 (Ne.symm ne253)
    have f289 : Exa Z h283 b258 "com/example/stowage/stowage/solve/HostLoad" := f282.wr W283
    have f290 : Fld Z h283 b258 "com/example/stowage/stowage/solve/HostLoad" "diskFree" "[J" (.ref d273) := y273.other W283 (Or.inl (Ne.symm ne259))
    have f291 : Ax Z h283 d273 .long [(.long q2), (.long q3), (.long q4)] := z273v.other W283 (Ne.symm ne274)
    have Z283 : n0 ≤ h283.size := Nat.le_trans Zk273 (Keep.of_wr W283).1
    have N283 := Fr.snoc X283 N273 g_b237
    refine Done.step st283 ?_
    show Done p e below s _ _ _ (T283.setTop (mkF m 89 #[.val (.int p1), .val (.long q2), .second, .val (.long q3), .second, .val (.long q4), .second, .val (.long q5), .second, .val (.int (3 : Int32)), .val (.ref b237), .val (.ref b252), .val (.ref b258), .unset, .unset] []))
    refine Done.step (fun t k => XS.iload X283.here hx rfl (hb hby at_89) rfl k) ?_
    show Done p e below s _ _ _ (T283.setTop (mkF m 91 #[.val (.int p1), .val (.long q2), .second, .val (.long q3), .second, .val (.long q4), .second, .val (.long q5), .second, .val (.int (3 : Int32)), .val (.ref b237), .val (.ref b252), .val (.ref b258), .unset, .unset] [(.int (3 : Int32))]))
    refine Done.step (fun t k => XS.ifNo X283.here hx rfl (hb hby at_91) rfl ((if0 _ _).trans (tlt (by decide)).2.2.2) k) ?_
    show Done p e below s _ _ _ (T283.setTop (mkF m 94 #[.val (.int p1), .val (.long q2), .second, .val (.long q3), .second, .val (.long q4), .second, .val (.long q5), .second, .val (.int (3 : Int32)), .val (.ref b237), .val (.ref b252), .val (.ref b258), .unset, .unset] []))
    refine Done.step (fun t k => XS.lloadN X283.here hx rfl (hb hby at_94) rfl k) ?_
    show Done p e below s _ _ _ (T283.setTop (mkF m 95 #[.val (.int p1), .val (.long q2), .second, .val (.long q3), .second, .val (.long q4), .second, .val (.long q5), .second, .val (.int (3 : Int32)), .val (.ref b237), .val (.ref b252), .val (.ref b258), .unset, .unset] [(.long q2)]))
    refine Done.step (fun t k => XS.goto X283.here hx rfl (pc0 := 95) (pc' := 99) rfl (hb hby at_95) (by decide) (by decide) k) ?_
    show Done p e below s _ _ _ (T283.setTop (mkF m 99 #[.val (.int p1), .val (.long q2), .second, .val (.long q3), .second, .val (.long q4), .second, .val (.long q5), .second, .val (.int (3 : Int32)), .val (.ref b237), .val (.ref b252), .val (.ref b258), .unset, .unset] [(.long q2)]))
    refine Done.step (fun t k => XS.iload X283.here hx rfl (hb hby at_99) rfl k) ?_
    show Done p e below s _ _ _ (T283.setTop (mkF m 101 #[.val (.int p1), .val (.long q2), .second, .val (.long q3), .second, .val (.long q4), .second, .val (.long q5), .second, .val (.int (3 : Int32)), .val (.ref b237), .val (.ref b252), .val (.ref b258), .unset, .unset] [(.int (3 : Int32)), (.long q2)]))
    refine Done.step (fun t k => XS.iconst X283.here hx rfl (hb hby at_101) k) ?_
    show Done p e below s _ _ _ (T283.setTop (mkF m 102 #[.val (.int p1), .val (.long q2), .second, .val (.long q3), .second, .val (.long q4), .second, .val (.long q5), .second, .val (.int (3 : Int32)), .val (.ref b237), .val (.ref b252), .val (.ref b258), .unset, .unset] [(.int (1 : Int32)), (.int (3 : Int32)), (.long q2)]))
    refine Done.step (fun t k => XS.icmpNo X283.here hx rfl (hb hby at_102) rfl (tlt (by decide)).2.2.2 k) ?_
    show Done p e below s _ _ _ (T283.setTop (mkF m 105 #[.val (.int p1), .val (.long q2), .second, .val (.long q3), .second, .val (.long q4), .second, .val (.long q5), .second, .val (.int (3 : Int32)), .val (.ref b237), .val (.ref b252), .val (.ref b258), .unset, .unset] [(.long q2)]))
    refine Done.step (fun t k => XS.lloadN X283.here hx rfl (hb hby at_105) rfl k) ?_
    show Done p e below s _ _ _ (T283.setTop (mkF m 106 #[.val (.int p1), .val (.long q2), .second, .val (.long q3), .second, .val (.long q4), .second, .val (.long q5), .second, .val (.int (3 : Int32)), .val (.ref b237), .val (.ref b252), .val (.ref b258), .unset, .unset] [(.long q3), (.long q2)]))
    refine Done.step (fun t k => XS.goto X283.here hx rfl (pc0 := 106) (pc' := 110) rfl (hb hby at_106) (by decide) (by decide) k) ?_
    show Done p e below s _ _ _ (T283.setTop (mkF m 110 #[.val (.int p1), .val (.long q2), .second, .val (.long q3), .second, .val (.long q4), .second, .val (.long q5), .second, .val (.int (3 : Int32)), .val (.ref b237), .val (.ref b252), .val (.ref b258), .unset, .unset] [(.long q3), (.long q2)]))
    refine Done.step (fun t k => XS.ladd X283.here hx rfl (hb hby at_110) rfl k) ?_
    show Done p e below s _ _ _ (T283.setTop (mkF m 111 #[.val (.int p1), .val (.long q2), .second, .val (.long q3), .second, .val (.long q4), .second, .val (.long q5), .second, .val (.int (3 : Int32)), .val (.ref b237), .val (.ref b252), .val (.ref b258), .unset, .unset] [(.long (q2 + q3))]))
    refine Done.step (fun t k => XS.iload X283.here hx rfl (hb hby at_111) rfl k) ?_
    show Done p e below s _ _ _ (T283.setTop (mkF m 113 #[.val (.int p1), .val (.long q2), .second, .val (.long q3), .second, .val (.long q4), .second, .val (.long q5), .second, .val (.int (3 : Int32)), .val (.ref b237), .val (.ref b252), .val (.ref b258), .unset, .unset] [(.int (3 : Int32)), (.long (q2 + q3))]))
    refine Done.step (fun t k => XS.iconst X283.here hx rfl (hb hby at_113) k) ?_
    show Done p e below s _ _ _ (T283.setTop (mkF m 114 #[.val (.int p1), .val (.long q2), .second, .val (.long q3), .second, .val (.long q4), .second, .val (.long q5), .second, .val (.int (3 : Int32)), .val (.ref b237), .val (.ref b252), .val (.ref b258), .unset, .unset] [(.int (2 : Int32)), (.int (3 : Int32)), (.long (q2 + q3))]))
    refine Done.step (fun t k => XS.icmpNo X283.here hx rfl (hb hby at_114) rfl (tlt (by decide)).2.2.2 k) ?_
    show Done p e below s _ _ _ (T283.setTop (mkF m 117 #[.val (.int p1), .val (.long q2), .second, .val (.long q3), .second, .val (.long q4), .second, .val (.long q5), .second, .val (.int (3 : Int32)), .val (.ref b237), .val (.ref b252), .val (.ref b258), .unset, .unset] [(.long (q2 + q3))]))
    refine Done.step (fun t k => XS.lload X283.here hx rfl (hb hby at_117) rfl k) ?_
    show Done p e below s _ _ _ (T283.setTop (mkF m 119 #[.val (.int p1), .val (.long q2), .second, .val (.long q3), .second, .val (.long q4), .second, .val (.long q5), .second, .val (.int (3 : Int32)), .val (.ref b237), .val (.ref b252), .val (.ref b258), .unset, .unset] [(.long q4), (.long (q2 + q3))]))
    refine Done.step (fun t k => XS.goto X283.here hx rfl (pc0 := 119) (pc' := 123) rfl (hb hby at_119) (by decide) (by decide) k) ?_
    show Done p e below s _ _ _ (T283.setTop (mkF m 123 #[.val (.int p1), .val (.long q2), .second, .val (.long q3), .second, .val (.long q4), .second, .val (.long q5), .second, .val (.int (3 : Int32)), .val (.ref b237), .val (.ref b252), .val (.ref b258), .unset, .unset] [(.long q4), (.long (q2 + q3))]))
    refine Done.step (fun t k => XS.ladd X283.here hx rfl (hb hby at_123) rfl k) ?_
    show Done p e below s _ _ _ (T283.setTop (mkF m 124 #[.val (.int p1), .val (.long q2), .second, .val (.long q3), .second, .val (.long q4), .second, .val (.long q5), .second, .val (.int (3 : Int32)), .val (.ref b237), .val (.ref b252), .val (.ref b258), .unset, .unset] [(.long ((q2 + q3) + q4))]))
    refine Done.step (fun t k => XS.iload X283.here hx rfl (hb hby at_124) rfl k) ?_
    show Done p e below s _ _ _ (T283.setTop (mkF m 126 #[.val (.int p1), .val (.long q2), .second, .val (.long q3), .second, .val (.long q4), .second, .val (.long q5), .second, .val (.int (3 : Int32)), .val (.ref b237), .val (.ref b252), .val (.ref b258), .unset, .unset] [(.int (3 : Int32)), (.long ((q2 + q3) + q4))]))
    refine Done.step (fun t k => XS.iconst X283.here hx rfl (hb hby at_126) k) ?_
    show Done p e below s _ _ _ (T283.setTop (mkF m 127 #[.val (.int p1), .val (.long q2), .second, .val (.long q3), .second, .val (.long q4), .second, .val (.long q5), .second, .val (.int (3 : Int32)), .val (.ref b237), .val (.ref b252), .val (.ref b258), .unset, .unset] [(.int (3 : Int32)), (.int (3 : Int32)), (.long ((q2 + q3) + q4))]))
    refine Done.step (fun t k => XS.icmpYes X283.here hx rfl (pc0 := 127) (pc' := 135) rfl (hb hby at_127) rfl (flt (by decide)).2.2.2 (by decide) (by decide) k) ?_
    show Done p e below s _ _ _ (T283.setTop (mkF m 135 #[.val (.int p1), .val (.long q2), .second, .val (.long q3), .second, .val (.long q4), .second, .val (.long q5), .second, .val (.int (3 : Int32)), .val (.ref b237), .val (.ref b252), .val (.ref b258), .unset, .unset] [(.long ((q2 + q3) + q4))]))
    refine Done.step (fun t k => XS.lconst X283.here hx rfl (hb hby at_135) k) ?_
    show Done p e below s _ _ _ (T283.setTop (mkF m 136 #[.val (.int p1), .val (.long q2), .second, .val (.long q3), .second, .val (.long q4), .second, .val (.long q5), .second, .val (.int (3 : Int32)), .val (.ref b237), .val (.ref b252), .val (.ref b258), .unset, .unset] [(.long (0 : Int64)), (.long ((q2 + q3) + q4))]))
    refine Done.step (fun t k => XS.ladd X283.here hx rfl (hb hby at_136) rfl k) ?_
    show Done p e below s _ _ _ (T283.setTop (mkF m 137 #[.val (.int p1), .val (.long q2), .second, .val (.long q3), .second, .val (.long q4), .second, .val (.long q5), .second, .val (.int (3 : Int32)), .val (.ref b237), .val (.ref b252), .val (.ref b258), .unset, .unset] [(.long (((q2 + q3) + q4) + (0 : Int64)))]))
    refine Done.step (fun t k => XS.lstore X283.here hx rfl (hb hby at_137) rfl (l' := #[.val (.int p1), .val (.long q2), .second, .val (.long q3), .second, .val (.long q4), .second, .val (.long q5), .second, .val (.int (3 : Int32)), .val (.ref b237), .val (.ref b252), .val (.ref b258), .val (.long (((q2 + q3) + q4) + (0 : Int64))), .second]) rfl k) ?_
    show Done p e below s _ _ _ (T283.setTop (mkF m 139 #[.val (.int p1), .val (.long q2), .second, .val (.long q3), .second, .val (.long q4), .second, .val (.long q5), .second, .val (.int (3 : Int32)), .val (.ref b237), .val (.ref b252), .val (.ref b258), .val (.long (((q2 + q3) + q4) + (0 : Int64))), .second] []))
    refine Done.step (fun t k => XS.aload X283.here hx rfl (hb hby at_139) rfl rfl k) ?_
    show Done p e below s _ _ _ (T283.setTop (mkF m 141 #[.val (.int p1), .val (.long q2), .second, .val (.long q3), .second, .val (.long q4), .second, .val (.long q5), .second, .val (.int (3 : Int32)), .val (.ref b237), .val (.ref b252), .val (.ref b258), .val (.long (((q2 + q3) + q4) + (0 : Int64))), .second] [(.ref b258)]))
    obtain ⟨cq292, kq292, q292a, q292b, q292c⟩ := isOf hZ e283 f289
    obtain ⟨v292, _, ⟨T292, L292, k292, n292⟩, -, X292, ⟨Lc292, hQ292, l292, y292, z292⟩, st292⟩ := X283.virtualBack hx (y := (⟨"com/example/stowage/stowage/solve/HostLoad", "freeDiskSpace", "()J"⟩ : MethodName)) (z := (⟨"com/example/stowage/stowage/solve/HostLoad", "freeDiskSpace", "()J"⟩ : MethodName)) hown (mvT hZ (hw _ (List.mem_of_getElem? (i := 74) rfl))) (mvT hZ (hw _ (List.mem_of_getElem? (i := 75) rfl))) (notFace_of_selects (args := #[]) (mvT hZ (hw _ (List.mem_of_getElem? (i := 77) rfl)))) (mvT hZ (hw _ (List.mem_of_getElem? (i := 77) rfl))) (mvT hZ (hw _ (List.mem_of_getElem? (i := 76) rfl))) (by decide) (backOf (W := 0) (rm8 l Z a0 hw [] b258 d273 [q2, q3, q4] h283 n0 Z283 f290 f291 (Nat.le_of_ble_eq_true rfl)) hZ (hw _ (List.mem_of_getElem? (i := 78) rfl)) (hw _ (List.mem_of_getElem? (i := 4) rfl)) (by decide) (by decide)) q292a q292c (g := (mkF m 141 #[.val (.int p1), .val (.long q2), .second, .val (.long q3), .second, .val (.long q4), .second, .val (.long q5), .second, .val (.int (3 : Int32)), .val (.ref b237), .val (.ref b252), .val (.ref b258), .val (.long (((q2 + q3) + q4) + (0 : Int64))), .second] [(.ref b258)])) rfl (by rw [hml]; rfl) (Steps.refl _) (argsL := []) (rest := []) (lenOf pd_2 rfl) rfl (by show 2 * 0 + _ ≤ _; exact Nat.le_of_eq rfl) (hb hby at_141) (fun _ _ => ⟨rfl, e283, (by decide : 10 + 0 ≤ _), (by decide : 38 + 0 ≤ _)⟩)
    dsimp only [Pt.U, Pt.locs, Pt.cells, Pt.slots] at X292 l292 y292 z292 st292 hQ292
    subst l292 y292 z292
    refine Done.far st292 ?_
    obtain ⟨rfl, N292q, e292⟩ := hQ292
    have N292 := Fr.app N283 N292q
    show Done p e below s _ _ _ (T292.setTop (mkF m 144 #[.val (.int p1), .val (.long q2), .second, .val (.long q3), .second, .val (.long q4), .second, .val (.long q5), .second, .val (.int (3 : Int32)), .val (.ref b237), .val (.ref b252), .val (.ref b258), .val (.long (((q2 + q3) + q4) + (0 : Int64))), .second] [(.long (List.foldl (· + ·) (0 : Int64) [q2, q3, q4]))]))
    refine Done.step (fun t k => XS.lload X292.here hx rfl (hb hby at_144) rfl k) ?_
    show Done p e below s _ _ _ (T292.setTop (mkF m 146 #[.val (.int p1), .val (.long q2), .second, .val (.long q3), .second, .val (.long q4), .second, .val (.long q5), .second, .val (.int (3 : Int32)), .val (.ref b237), .val (.ref b252), .val (.ref b258), .val (.long (((q2 + q3) + q4) + (0 : Int64))), .second] [(.long (((q2 + q3) + q4) + (0 : Int64))), (.long (List.foldl (· + ·) (0 : Int64) [q2, q3, q4]))]))
    refine Done.step (fun t k => XS.lcmp X292.here hx rfl (hb hby at_146) rfl k) ?_
    show Done p e below s _ _ _ (T292.setTop (mkF m 147 #[.val (.int p1), .val (.long q2), .second, .val (.long q3), .second, .val (.long q4), .second, .val (.long q5), .second, .val (.int (3 : Int32)), .val (.ref b237), .val (.ref b252), .val (.ref b258), .val (.long (((q2 + q3) + q4) + (0 : Int64))), .second] [(.int (lcmpW (List.foldl (· + ·) (0 : Int64) [q2, q3, q4]) (((q2 + q3) + q4) + (0 : Int64))))]))
    refine Done.step (fun t k => XS.ifNo X292.here hx rfl (hb hby at_147) rfl ((if0 _ _).trans (teq ((lw_eq _ _).mpr (show (List.foldl (· + ·) (0 : Int64) [q2, q3, q4]) = (((q2 + q3) + q4) + (0 : Int64)) from (by simp [List.foldl])))).2) k) ?_
    show Done p e below s _ _ _ (T292.setTop (mkF m 150 #[.val (.int p1), .val (.long q2), .second, .val (.long q3), .second, .val (.long q4), .second, .val (.long q5), .second, .val (.int (3 : Int32)), .val (.ref b237), .val (.ref b252), .val (.ref b258), .val (.long (((q2 + q3) + q4) + (0 : Int64))), .second] []))
    refine Done.step (fun t k => XS.iconst X292.here hx rfl (hb hby at_150) k) ?_
    show Done p e below s _ _ _ (T292.setTop (mkF m 151 #[.val (.int p1), .val (.long q2), .second, .val (.long q3), .second, .val (.long q4), .second, .val (.long q5), .second, .val (.int (3 : Int32)), .val (.ref b237), .val (.ref b252), .val (.ref b258), .val (.long (((q2 + q3) + q4) + (0 : Int64))), .second] [(.int (1 : Int32))]))
    refine Done.step (fun t k => XS.goto X292.here hx rfl (pc0 := 151) (pc' := 155) rfl (hb hby at_151) (by decide) (by decide) k) ?_
    show Done p e below s _ _ _ (T292.setTop (mkF m 155 #[.val (.int p1), .val (.long q2), .second, .val (.long q3), .second, .val (.long q4), .second, .val (.long q5), .second, .val (.int (3 : Int32)), .val (.ref b237), .val (.ref b252), .val (.ref b258), .val (.long (((q2 + q3) + q4) + (0 : Int64))), .second] [(.int (1 : Int32))]))
    exact Done.narr X292 hx hlk hret (by simp) (hb hby at_155) (by decide) (by decide) ⟨rfl, N292⟩
  · show Done p e below s _ _ _ (s₁.setTop (mkF m 8 #[.val (.int p1), .val (.long q2), .second, .val (.long q3), .second, .val (.long q4), .second, .val (.long q5), .second, .val (.int (4 : Int32)), .unset, .unset, .unset, .unset, .unset] []))
    refine Done.step (fun t k => XS.iload X0.here hx rfl (hb hby at_8) rfl k) ?_
    show Done p e below s _ _ _ (s₁.setTop (mkF m 10 #[.val (.int p1), .val (.long q2), .second, .val (.long q3), .second, .val (.long q4), .second, .val (.long q5), .second, .val (.int (4 : Int32)), .unset, .unset, .unset, .unset, .unset] [(.int (4 : Int32))]))
    obtain ⟨T293, h293, k293, X293, e293, E293, A293, B293, st293⟩ := newPE X0 hx hZ (hw _ (List.mem_of_getElem? (i := 1) rfl)) e0 (g := (mkF m 10 #[.val (.int p1), .val (.long q2), .second, .val (.long q3), .second, .val (.long q4), .second, .val (.long q5), .second, .val (.int (4 : Int32)), .unset, .unset, .unset, .unset, .unset] [(.int (4 : Int32))])) rfl (hb hby at_10) rfl (by decide) (cap := 4) (by decide) (by decide) (by decide) (by decide) (ad := "[J") (by decide)
    obtain ⟨b293, gq293⟩ : ∃ z, z = h0.size := ⟨_, rfl⟩
    rw [← gq293] at A293 B293 st293
    have f294 : Sta Z h293 "java/util/ArrayList" "DEFAULTCAPACITY_EMPTY_ELEMENTDATA" "[Ljava/lang/Object;" (.ref dea) := Sde.ext E293
    have g_b293 : n0 ≤ b293 := Nat.le_trans Z0 (Nat.le_of_eq gq293.symm)
    have Z293 : n0 ≤ h293.size := Nat.le_trans Z0 E293.1
    have f295 : Ax Z h293 b293 .long [(.long (0 : Int64)), (.long (0 : Int64)), (.long (0 : Int64)), (.long (0 : Int64))] := Ax.new (ty := .long) (i := 4) A293 (by decide)
    refine Done.step st293 ?_
    show Done p e below s _ _ _ (T293.setTop (mkF m 12 #[.val (.int p1), .val (.long q2), .second, .val (.long q3), .second, .val (.long q4), .second, .val (.long q5), .second, .val (.int (4 : Int32)), .unset, .unset, .unset, .unset, .unset] [(.ref b293)]))
    refine Done.step (fun t k => XS.astore X293.here hx rfl (hb hby at_12) rfl rfl (l' := #[.val (.int p1), .val (.long q2), .second, .val (.long q3), .second, .val (.long q4), .second, .val (.long q5), .second, .val (.int (4 : Int32)), .val (.ref b293), .unset, .unset, .unset, .unset]) rfl k) ?_
    show Done p e below s _ _ _ (T293.setTop (mkF m 14 #[.val (.int p1), .val (.long q2), .second, .val (.long q3), .second, .val (.long q4), .second, .val (.long q5), .second, .val (.int (4 : Int32)), .val (.ref b293), .unset, .unset, .unset, .unset] []))
    refine Done.step (fun t k => XS.iload X293.here hx rfl (hb hby at_14) rfl k) ?_
    show Done p e below s _ _ _ (T293.setTop (mkF m 16 #[.val (.int p1), .val (.long q2), .second, .val (.long q3), .second, .val (.long q4), .second, .val (.long q5), .second, .val (.int (4 : Int32)), .val (.ref b293), .unset, .unset, .unset, .unset] [(.int (4 : Int32))]))
    refine Done.step (fun t k => XS.ifNo X293.here hx rfl (hb hby at_16) rfl ((if0 _ _).trans (tlt (by decide)).2.2.2) k) ?_
    show Done p e below s _ _ _ (T293.setTop (mkF m 19 #[.val (.int p1), .val (.long q2), .second, .val (.long q3), .second, .val (.long q4), .second, .val (.long q5), .second, .val (.int (4 : Int32)), .val (.ref b293), .unset, .unset, .unset, .unset] []))
    refine Done.step (fun t k => XS.aload X293.here hx rfl (hb hby at_19) rfl rfl k) ?_
    show Done p e below s _ _ _ (T293.setTop (mkF m 21 #[.val (.int p1), .val (.long q2), .second, .val (.long q3), .second, .val (.long q4), .second, .val (.long q5), .second, .val (.int (4 : Int32)), .val (.ref b293), .unset, .unset, .unset, .unset] [(.ref b293)]))
    refine Done.step (fun t k => XS.iconst X293.here hx rfl (hb hby at_21) k) ?_
    show Done p e below s _ _ _ (T293.setTop (mkF m 22 #[.val (.int p1), .val (.long q2), .second, .val (.long q3), .second, .val (.long q4), .second, .val (.long q5), .second, .val (.int (4 : Int32)), .val (.ref b293), .unset, .unset, .unset, .unset] [(.int (0 : Int32)), (.ref b293)]))
    refine Done.step (fun t k => XS.lloadN X293.here hx rfl (hb hby at_22) rfl k) ?_
    show Done p e below s _ _ _ (T293.setTop (mkF m 23 #[.val (.int p1), .val (.long q2), .second, .val (.long q3), .second, .val (.long q4), .second, .val (.long q5), .second, .val (.int (4 : Int32)), .val (.ref b293), .unset, .unset, .unset, .unset] [(.long q2), (.int (0 : Int32)), (.ref b293)]))
    obtain ⟨T296, h296, X296, e296, W296, A296, st296⟩ := stoJ X293 hx hZ e293 f295 (j := (0 : Int32)) (by decide) (i := 0) (by decide) (Nat.le_of_ble_eq_true rfl) (g := (mkF m 23 #[.val (.int p1), .val (.long q2), .second, .val (.long q3), .second, .val (.long q4), .second, .val (.long q5), .second, .val (.int (4 : Int32)), .val (.ref b293), .unset, .unset, .unset, .unset] [(.long q2), (.int (0 : Int32)), (.ref b293)])) rfl rfl (hb hby at_23)
    have f297 : Sta Z h296 "java/util/ArrayList" "DEFAULTCAPACITY_EMPTY_ELEMENTDATA" "[Ljava/lang/Object;" (.ref dea) := f294.wr W296
    have f298 : Exa Z h296 b293 "[J" := B293.wr W296
    have f299 : Ax Z h296 b293 .long [(.long q2), (.long (0 : Int64)), (.long (0 : Int64)), (.long (0 : Int64))] := A296
    have Z296 : n0 ≤ h296.size := Nat.le_trans Z293 (Keep.of_wr W296).1
    have N296 := Fr.snoc X296 N0 g_b293
    refine Done.step st296 ?_
    show Done p e below s _ _ _ (T296.setTop (mkF m 24 #[.val (.int p1), .val (.long q2), .second, .val (.long q3), .second, .val (.long q4), .second, .val (.long q5), .second, .val (.int (4 : Int32)), .val (.ref b293), .unset, .unset, .unset, .unset] []))
    refine Done.step (fun t k => XS.iload X296.here hx rfl (hb hby at_24) rfl k) ?_
    show Done p e below s _ _ _ (T296.setTop (mkF m 26 #[.val (.int p1), .val (.long q2), .second, .val (.long q3), .second, .val (.long q4), .second, .val (.long q5), .second, .val (.int (4 : Int32)), .val (.ref b293), .unset, .unset, .unset, .unset] [(.int (4 : Int32))]))
    refine Done.step (fun t k => XS.iconst X296.here hx rfl (hb hby at_26) k) ?_
    show Done p e below s _ _ _ (T296.setTop (mkF m 27 #[.val (.int p1), .val (.long q2), .second, .val (.long q3), .second, .val (.long q4), .second, .val (.long q5), .second, .val (.int (4 : Int32)), .val (.ref b293), .unset, .unset, .unset, .unset] [(.int (1 : Int32)), (.int (4 : Int32))]))
    refine Done.step (fun t k => XS.icmpNo X296.here hx rfl (hb hby at_27) rfl (tlt (by decide)).2.2.2 k) ?_
    show Done p e below s _ _ _ (T296.setTop (mkF m 30 #[.val (.int p1), .val (.long q2), .second, .val (.long q3), .second, .val (.long q4), .second, .val (.long q5), .second, .val (.int (4 : Int32)), .val (.ref b293), .unset, .unset, .unset, .unset] []))
    refine Done.step (fun t k => XS.aload X296.here hx rfl (hb hby at_30) rfl rfl k) ?_
    show Done p e below s _ _ _ (T296.setTop (mkF m 32 #[.val (.int p1), .val (.long q2), .second, .val (.long q3), .second, .val (.long q4), .second, .val (.long q5), .second, .val (.int (4 : Int32)), .val (.ref b293), .unset, .unset, .unset, .unset] [(.ref b293)]))
    refine Done.step (fun t k => XS.iconst X296.here hx rfl (hb hby at_32) k) ?_
    show Done p e below s _ _ _ (T296.setTop (mkF m 33 #[.val (.int p1), .val (.long q2), .second, .val (.long q3), .second, .val (.long q4), .second, .val (.long q5), .second, .val (.int (4 : Int32)), .val (.ref b293), .unset, .unset, .unset, .unset] [(.int (1 : Int32)), (.ref b293)]))
    refine Done.step (fun t k => XS.lloadN X296.here hx rfl (hb hby at_33) rfl k) ?_
    show Done p e below s _ _ _ (T296.setTop (mkF m 34 #[.val (.int p1), .val (.long q2), .second, .val (.long q3), .second, .val (.long q4), .second, .val (.long q5), .second, .val (.int (4 : Int32)), .val (.ref b293), .unset, .unset, .unset, .unset] [(.long q3), (.int (1 : Int32)), (.ref b293)]))
    obtain ⟨T300, h300, X300, e300, W300, A300, st300⟩ := stoJ X296 hx hZ e296 f299 (j := (1 : Int32)) (by decide) (i := 1) (by decide) (Nat.le_of_ble_eq_true rfl) (g := (mkF m 34 #[.val (.int p1), .val (.long q2), .second, .val (.long q3), .second, .val (.long q4), .second, .val (.long q5), .second, .val (.int (4 : Int32)), .val (.ref b293), .unset, .unset, .unset, .unset] [(.long q3), (.int (1 : Int32)), (.ref b293)])) rfl rfl (hb hby at_34)
    have f301 : Sta Z h300 "java/util/ArrayList" "DEFAULTCAPACITY_EMPTY_ELEMENTDATA" "[Ljava/lang/Object;" (.ref dea) := f297.wr W300
    have f302 : Exa Z h300 b293 "[J" := f298.wr W300
    have f303 : Ax Z h300 b293 .long [(.long q2), (.long q3), (.long (0 : Int64)), (.long (0 : Int64))] := A300
    have Z300 : n0 ≤ h300.size := Nat.le_trans Z296 (Keep.of_wr W300).1
    have N300 := Fr.snoc X300 N296 g_b293
    refine Done.step st300 ?_
    show Done p e below s _ _ _ (T300.setTop (mkF m 35 #[.val (.int p1), .val (.long q2), .second, .val (.long q3), .second, .val (.long q4), .second, .val (.long q5), .second, .val (.int (4 : Int32)), .val (.ref b293), .unset, .unset, .unset, .unset] []))
    refine Done.step (fun t k => XS.iload X300.here hx rfl (hb hby at_35) rfl k) ?_
    show Done p e below s _ _ _ (T300.setTop (mkF m 37 #[.val (.int p1), .val (.long q2), .second, .val (.long q3), .second, .val (.long q4), .second, .val (.long q5), .second, .val (.int (4 : Int32)), .val (.ref b293), .unset, .unset, .unset, .unset] [(.int (4 : Int32))]))
    refine Done.step (fun t k => XS.iconst X300.here hx rfl (hb hby at_37) k) ?_
    show Done p e below s _ _ _ (T300.setTop (mkF m 38 #[.val (.int p1), .val (.long q2), .second, .val (.long q3), .second, .val (.long q4), .second, .val (.long q5), .second, .val (.int (4 : Int32)), .val (.ref b293), .unset, .unset, .unset, .unset] [(.int (2 : Int32)), (.int (4 : Int32))]))
    refine Done.step (fun t k => XS.icmpNo X300.here hx rfl (hb hby at_38) rfl (tlt (by decide)).2.2.2 k) ?_
    show Done p e below s _ _ _ (T300.setTop (mkF m 41 #[.val (.int p1), .val (.long q2), .second, .val (.long q3), .second, .val (.long q4), .second, .val (.long q5), .second, .val (.int (4 : Int32)), .val (.ref b293), .unset, .unset, .unset, .unset] []))
    refine Done.step (fun t k => XS.aload X300.here hx rfl (hb hby at_41) rfl rfl k) ?_
    show Done p e below s _ _ _ (T300.setTop (mkF m 43 #[.val (.int p1), .val (.long q2), .second, .val (.long q3), .second, .val (.long q4), .second, .val (.long q5), .second, .val (.int (4 : Int32)), .val (.ref b293), .unset, .unset, .unset, .unset] [(.ref b293)]))
    refine Done.step (fun t k => XS.iconst X300.here hx rfl (hb hby at_43) k) ?_
    show Done p e below s _ _ _ (T300.setTop (mkF m 44 #[.val (.int p1), .val (.long q2), .second, .val (.long q3), .second, .val (.long q4), .second, .val (.long q5), .second, .val (.int (4 : Int32)), .val (.ref b293), .unset, .unset, .unset, .unset] [(.int (2 : Int32)), (.ref b293)]))
    refine Done.step (fun t k => XS.lload X300.here hx rfl (hb hby at_44) rfl k) ?_
    show Done p e below s _ _ _ (T300.setTop (mkF m 46 #[.val (.int p1), .val (.long q2), .second, .val (.long q3), .second, .val (.long q4), .second, .val (.long q5), .second, .val (.int (4 : Int32)), .val (.ref b293), .unset, .unset, .unset, .unset] [(.long q4), (.int (2 : Int32)), (.ref b293)]))
    obtain ⟨T304, h304, X304, e304, W304, A304, st304⟩ := stoJ X300 hx hZ e300 f303 (j := (2 : Int32)) (by decide) (i := 2) (by decide) (Nat.le_of_ble_eq_true rfl) (g := (mkF m 46 #[.val (.int p1), .val (.long q2), .second, .val (.long q3), .second, .val (.long q4), .second, .val (.long q5), .second, .val (.int (4 : Int32)), .val (.ref b293), .unset, .unset, .unset, .unset] [(.long q4), (.int (2 : Int32)), (.ref b293)])) rfl rfl (hb hby at_46)
    have f305 : Sta Z h304 "java/util/ArrayList" "DEFAULTCAPACITY_EMPTY_ELEMENTDATA" "[Ljava/lang/Object;" (.ref dea) := f301.wr W304
    have f306 : Exa Z h304 b293 "[J" := f302.wr W304
    have f307 : Ax Z h304 b293 .long [(.long q2), (.long q3), (.long q4), (.long (0 : Int64))] := A304
    have Z304 : n0 ≤ h304.size := Nat.le_trans Z300 (Keep.of_wr W304).1
    have N304 := Fr.snoc X304 N300 g_b293
    refine Done.step st304 ?_
    show Done p e below s _ _ _ (T304.setTop (mkF m 47 #[.val (.int p1), .val (.long q2), .second, .val (.long q3), .second, .val (.long q4), .second, .val (.long q5), .second, .val (.int (4 : Int32)), .val (.ref b293), .unset, .unset, .unset, .unset] []))
    refine Done.step (fun t k => XS.iload X304.here hx rfl (hb hby at_47) rfl k) ?_
    show Done p e below s _ _ _ (T304.setTop (mkF m 49 #[.val (.int p1), .val (.long q2), .second, .val (.long q3), .second, .val (.long q4), .second, .val (.long q5), .second, .val (.int (4 : Int32)), .val (.ref b293), .unset, .unset, .unset, .unset] [(.int (4 : Int32))]))
    refine Done.step (fun t k => XS.iconst X304.here hx rfl (hb hby at_49) k) ?_
    show Done p e below s _ _ _ (T304.setTop (mkF m 50 #[.val (.int p1), .val (.long q2), .second, .val (.long q3), .second, .val (.long q4), .second, .val (.long q5), .second, .val (.int (4 : Int32)), .val (.ref b293), .unset, .unset, .unset, .unset] [(.int (3 : Int32)), (.int (4 : Int32))]))
    refine Done.step (fun t k => XS.icmpNo X304.here hx rfl (hb hby at_50) rfl (tlt (by decide)).2.2.2 k) ?_
    show Done p e below s _ _ _ (T304.setTop (mkF m 53 #[.val (.int p1), .val (.long q2), .second, .val (.long q3), .second, .val (.long q4), .second, .val (.long q5), .second, .val (.int (4 : Int32)), .val (.ref b293), .unset, .unset, .unset, .unset] []))
    refine Done.step (fun t k => XS.aload X304.here hx rfl (hb hby at_53) rfl rfl k) ?_
    show Done p e below s _ _ _ (T304.setTop (mkF m 55 #[.val (.int p1), .val (.long q2), .second, .val (.long q3), .second, .val (.long q4), .second, .val (.long q5), .second, .val (.int (4 : Int32)), .val (.ref b293), .unset, .unset, .unset, .unset] [(.ref b293)]))
    refine Done.step (fun t k => XS.iconst X304.here hx rfl (hb hby at_55) k) ?_
    show Done p e below s _ _ _ (T304.setTop (mkF m 56 #[.val (.int p1), .val (.long q2), .second, .val (.long q3), .second, .val (.long q4), .second, .val (.long q5), .second, .val (.int (4 : Int32)), .val (.ref b293), .unset, .unset, .unset, .unset] [(.int (3 : Int32)), (.ref b293)]))
    refine Done.step (fun t k => XS.lload X304.here hx rfl (hb hby at_56) rfl k) ?_
    show Done p e below s _ _ _ (T304.setTop (mkF m 58 #[.val (.int p1), .val (.long q2), .second, .val (.long q3), .second, .val (.long q4), .second, .val (.long q5), .second, .val (.int (4 : Int32)), .val (.ref b293), .unset, .unset, .unset, .unset] [(.long q5), (.int (3 : Int32)), (.ref b293)]))
    obtain ⟨T308, h308, X308, e308, W308, A308, st308⟩ := stoJ X304 hx hZ e304 f307 (j := (3 : Int32)) (by decide) (i := 3) (by decide) (Nat.le_of_ble_eq_true rfl) (g := (mkF m 58 #[.val (.int p1), .val (.long q2), .second, .val (.long q3), .second, .val (.long q4), .second, .val (.long q5), .second, .val (.int (4 : Int32)), .val (.ref b293), .unset, .unset, .unset, .unset] [(.long q5), (.int (3 : Int32)), (.ref b293)])) rfl rfl (hb hby at_58)
    have f309 : Sta Z h308 "java/util/ArrayList" "DEFAULTCAPACITY_EMPTY_ELEMENTDATA" "[Ljava/lang/Object;" (.ref dea) := f305.wr W308
    have f310 : Exa Z h308 b293 "[J" := f306.wr W308
    have f311 : Ax Z h308 b293 .long [(.long q2), (.long q3), (.long q4), (.long q5)] := A308
    have Z308 : n0 ≤ h308.size := Nat.le_trans Z304 (Keep.of_wr W308).1
    have N308 := Fr.snoc X308 N304 g_b293
    refine Done.step st308 ?_
    show Done p e below s _ _ _ (T308.setTop (mkF m 59 #[.val (.int p1), .val (.long q2), .second, .val (.long q3), .second, .val (.long q4), .second, .val (.long q5), .second, .val (.int (4 : Int32)), .val (.ref b293), .unset, .unset, .unset, .unset] []))
    refine Done.step (fun t k => XS.iconst X308.here hx rfl (hb hby at_59) k) ?_
    show Done p e below s _ _ _ (T308.setTop (mkF m 60 #[.val (.int p1), .val (.long q2), .second, .val (.long q3), .second, .val (.long q4), .second, .val (.long q5), .second, .val (.int (4 : Int32)), .val (.ref b293), .unset, .unset, .unset, .unset] [(.int (1 : Int32))]))
    obtain ⟨T312, h312, k312, X312, e312, E312, A312, B312, st312⟩ := newPE X308 hx hZ (hw _ (List.mem_of_getElem? (i := 1) rfl)) e308 (g := (mkF m 60 #[.val (.int p1), .val (.long q2), .second, .val (.long q3), .second, .val (.long q4), .second, .val (.long q5), .second, .val (.int (4 : Int32)), .val (.ref b293), .unset, .unset, .unset, .unset] [(.int (1 : Int32))])) rfl (hb hby at_60) rfl (by decide) (cap := 1) (by decide) (by decide) (by decide) (by decide) (ad := "[J") (by decide)
    obtain ⟨b312, gq312⟩ : ∃ z, z = h308.size := ⟨_, rfl⟩
    rw [← gq312] at A312 B312 st312
    have ne313 : b293 ≠ b312 := Nat.ne_of_lt (Nat.lt_of_lt_of_le f310.lt (Nat.le_of_eq gq312.symm))
    have f314 : Sta Z h312 "java/util/ArrayList" "DEFAULTCAPACITY_EMPTY_ELEMENTDATA" "[Ljava/lang/Object;" (.ref dea) := f309.ext E312
    have f315 : Exa Z h312 b293 "[J" := f310.ext E312
    have f316 : Ax Z h312 b293 .long [(.long q2), (.long q3), (.long q4), (.long q5)] := f311.ext E312
    have g_b312 : n0 ≤ b312 := Nat.le_trans Z308 (Nat.le_of_eq gq312.symm)
    have Z312 : n0 ≤ h312.size := Nat.le_trans Z308 E312.1
    have f317 : Ax Z h312 b312 .long [(.long (0 : Int64))] := Ax.new (ty := .long) (i := 1) A312 (by decide)
    refine Done.step st312 ?_
    show Done p e below s _ _ _ (T312.setTop (mkF m 62 #[.val (.int p1), .val (.long q2), .second, .val (.long q3), .second, .val (.long q4), .second, .val (.long q5), .second, .val (.int (4 : Int32)), .val (.ref b293), .unset, .unset, .unset, .unset] [(.ref b312)]))
    refine Done.step (fun t k => XS.astore X312.here hx rfl (hb hby at_62) rfl rfl (l' := #[.val (.int p1), .val (.long q2), .second, .val (.long q3), .second, .val (.long q4), .second, .val (.long q5), .second, .val (.int (4 : Int32)), .val (.ref b293), .val (.ref b312), .unset, .unset, .unset]) rfl k) ?_
    show Done p e below s _ _ _ (T312.setTop (mkF m 64 #[.val (.int p1), .val (.long q2), .second, .val (.long q3), .second, .val (.long q4), .second, .val (.long q5), .second, .val (.int (4 : Int32)), .val (.ref b293), .val (.ref b312), .unset, .unset, .unset] []))
    obtain ⟨T318, h318, X318, e318, E318, A318, D318, -, st318⟩ := newO X312 hx hZ hown (hw _ (List.mem_of_getElem? (i := 2) rfl)) (hw _ (List.mem_of_getElem? (i := 3) rfl)) (hw _ (List.mem_of_getElem? (i := 4) rfl)) e312 (g := (mkF m 64 #[.val (.int p1), .val (.long q2), .second, .val (.long q3), .second, .val (.long q4), .second, .val (.long q5), .second, .val (.int (4 : Int32)), .val (.ref b293), .val (.ref b312), .unset, .unset, .unset] [])) rfl (hb hby at_64) (by decide) (by decide)
    obtain ⟨b318, gq318⟩ : ∃ z, z = h312.size := ⟨_, rfl⟩
    rw [← gq318] at A318 D318 st318
    have ne319 : b293 ≠ b318 := Nat.ne_of_lt (Nat.lt_of_lt_of_le f315.lt (Nat.le_of_eq gq318.symm))
    have ne320 : b312 ≠ b318 := Nat.ne_of_lt (Nat.lt_of_lt_of_le B312.lt (Nat.le_of_eq gq318.symm))
    have f321 : Sta Z h318 "java/util/ArrayList" "DEFAULTCAPACITY_EMPTY_ELEMENTDATA" "[Ljava/lang/Object;" (.ref dea) := f314.ext E318
    have f322 : Exa Z h318 b293 "[J" := f315.ext E318
    have f323 : Ax Z h318 b293 .long [(.long q2), (.long q3), (.long q4), (.long q5)] := f316.ext E318
    have f324 : Exa Z h318 b312 "[J" := B312.ext E318
    have f325 : Ax Z h318 b312 .long [(.long (0 : Int64))] := f317.ext E318
    have g_b318 : n0 ≤ b318 := Nat.le_trans Z312 (Nat.le_of_eq gq318.symm)
    have Z318 : n0 ≤ h318.size := Nat.le_trans Z312 E318.1
    have f326 : Fld Z h318 b318 "com/example/stowage/stowage/solve/HostLoad" "vms" "Ljava/util/List;" .null := D318 (Or.inr (hw _ (List.mem_of_getElem? (i := 36) rfl))) (ty := (.object "java/util/List")) (by decide)
    have f327 : Fld Z h318 b318 "com/example/stowage/stowage/solve/HostLoad" "requests" "Ljava/util/List;" .null := D318 (Or.inr (hw _ (List.mem_of_getElem? (i := 38) rfl))) (ty := (.object "java/util/List")) (by decide)
    have f328 : Fld Z h318 b318 "com/example/stowage/stowage/solve/HostLoad" "vmDisks" "Ljava/util/List;" .null := D318 (Or.inr (hw _ (List.mem_of_getElem? (i := 40) rfl))) (ty := (.object "java/util/List")) (by decide)
    have f329 : Fld Z h318 b318 "com/example/stowage/stowage/solve/HostLoad" "ruled" "Ljava/util/Map;" .null := D318 (Or.inr (hw _ (List.mem_of_getElem? (i := 58) rfl))) (ty := (.object "java/util/Map")) (by decide)
    have f330 : Fld Z h318 b318 "com/example/stowage/stowage/solve/HostLoad" "disks" "[J" .null := D318 (Or.inr (hw _ (List.mem_of_getElem? (i := 69) rfl))) (ty := (.array .long)) (by decide)
    have f331 : Fld Z h318 b318 "com/example/stowage/stowage/solve/HostLoad" "free" "[J" .null := D318 (Or.inr (hw _ (List.mem_of_getElem? (i := 71) rfl))) (ty := (.array .long)) (by decide)
    have f332 : Fld Z h318 b318 "com/example/stowage/stowage/solve/HostLoad" "diskFree" "[J" .null := D318 (Or.inr (hw _ (List.mem_of_getElem? (i := 73) rfl))) (ty := (.array .long)) (by decide)
    refine Done.step st318 ?_
    show Done p e below s _ _ _ (T318.setTop (mkF m 67 #[.val (.int p1), .val (.long q2), .second, .val (.long q3), .second, .val (.long q4), .second, .val (.long q5), .second, .val (.int (4 : Int32)), .val (.ref b293), .val (.ref b312), .unset, .unset, .unset] [(.ref b318)]))
    refine Done.step (fun t k => XS.dup X318.here hx rfl (hb hby at_67) rfl rfl k) ?_
    show Done p e below s _ _ _ (T318.setTop (mkF m 68 #[.val (.int p1), .val (.long q2), .second, .val (.long q3), .second, .val (.long q4), .second, .val (.long q5), .second, .val (.int (4 : Int32)), .val (.ref b293), .val (.ref b312), .unset, .unset, .unset] [(.ref b318), (.ref b318)]))
    refine Done.step (fun t k => XS.aload X318.here hx rfl (hb hby at_68) rfl rfl k) ?_
    show Done p e below s _ _ _ (T318.setTop (mkF m 70 #[.val (.int p1), .val (.long q2), .second, .val (.long q3), .second, .val (.long q4), .second, .val (.long q5), .second, .val (.int (4 : Int32)), .val (.ref b293), .val (.ref b312), .unset, .unset, .unset] [(.ref b312), (.ref b318), (.ref b318)]))
    refine Done.step (fun t k => XS.aload X318.here hx rfl (hb hby at_70) rfl rfl k) ?_
    show Done p e below s _ _ _ (T318.setTop (mkF m 72 #[.val (.int p1), .val (.long q2), .second, .val (.long q3), .second, .val (.long q4), .second, .val (.long q5), .second, .val (.int (4 : Int32)), .val (.ref b293), .val (.ref b312), .unset, .unset, .unset] [(.ref b293), (.ref b312), (.ref b318), (.ref b318)]))
    obtain ⟨v333, _, ⟨T333, L333, k333, n333⟩, -, X333, ⟨Lc333, hQ333, l333, y333, z333⟩, st333⟩ := X318.specialBack hx (y := (⟨"com/example/stowage/stowage/solve/HostLoad", "<init>", "([J[J)V"⟩ : MethodName)) rfl hown (mvT hZ (hw _ (List.mem_of_getElem? (i := 5) rfl))) (mvT hZ (hw _ (List.mem_of_getElem? (i := 6) rfl))) (mvT hZ (hw _ (List.mem_of_getElem? (i := 7) rfl))) (by decide) (backOf (W := 1) (rm1 l Z a0 hw [] b318 b312 b293 dea [q2, q3, q4, q5] h318 n0 Z318 A318 f326 f327 f328 f329 f330 f331 f332 g_b318 f321 f324 f325 f322 f323 (Nat.le_of_ble_eq_true rfl)) hZ (hw _ (List.mem_of_getElem? (i := 7) rfl)) (hw _ (List.mem_of_getElem? (i := 4) rfl)) (by decide) (by decide)) (g := (mkF m 72 #[.val (.int p1), .val (.long q2), .second, .val (.long q3), .second, .val (.long q4), .second, .val (.long q5), .second, .val (.int (4 : Int32)), .val (.ref b293), .val (.ref b312), .unset, .unset, .unset] [(.ref b293), (.ref b312), (.ref b318), (.ref b318)])) rfl (by rw [hml]; rfl) (Steps.refl _) (a := b318) (argsL := [(.ref b312), (.ref b293)]) (rest := [(.ref b318)]) (lenOf pd_1 rfl) rfl (by show 2 * 0 + _ ≤ _; exact Nat.le_of_eq rfl) (hb hby at_72) (fun _ _ => ⟨rfl, e318, (by decide : 3 + 7 ≤ _), (by decide : 13 + 26 ≤ _)⟩)
    dsimp only [Pt.U, Pt.locs, Pt.cells, Pt.slots] at X333 l333 y333 z333 st333 hQ333
    subst l333 y333 z333
    refine Done.far st333 ?_
    obtain ⟨rfl, N333q, K333q, x333, d333, y333, z333v, w333⟩ := hQ333
    have N333 := Fr.app N308 N333q
    have ne334 : b293 ≠ d333 := Nat.ne_of_lt (Nat.lt_of_lt_of_le f322.lt w333)
    have ne335 : b312 ≠ d333 := Nat.ne_of_lt (Nat.lt_of_lt_of_le f324.lt w333)
    have ne336 : b318 ≠ d333 := Nat.ne_of_lt (Nat.lt_of_lt_of_le A318.lt w333)
    have f337 : Sta Z T333.heap "java/util/ArrayList" "DEFAULTCAPACITY_EMPTY_ELEMENTDATA" "[Ljava/lang/Object;" (.ref dea) := own_stakeep f321 K333q (allS (own_unst A318) all0)
    have f338 : Exa Z T333.heap b293 "[J" := f322.keep K333q
    have f339 : Ax Z T333.heap b293 .long [(.long q2), (.long q3), (.long q4), (.long q5)] := f323.keep K333q (ninS ne319 nin0)
    have f340 : Exa Z T333.heap b312 "[J" := f324.keep K333q
    have f341 : Ax Z T333.heap b312 .long [(.long (0 : Int64))] := f325.keep K333q (ninS ne320 nin0)
    have f342 : Exa Z T333.heap b318 "com/example/stowage/stowage/solve/HostLoad" := A318.keep K333q
    have Zk333 : n0 ≤ T333.heap.size := Nat.le_trans Z318 K333q.1
    show Done p e below s _ _ _ (T333.setTop (mkF m 75 #[.val (.int p1), .val (.long q2), .second, .val (.long q3), .second, .val (.long q4), .second, .val (.long q5), .second, .val (.int (4 : Int32)), .val (.ref b293), .val (.ref b312), .unset, .unset, .unset] [(.ref b318)]))
    refine Done.step (fun t k => XS.astore X333.here hx rfl (hb hby at_75) rfl rfl (l' := #[.val (.int p1), .val (.long q2), .second, .val (.long q3), .second, .val (.long q4), .second, .val (.long q5), .second, .val (.int (4 : Int32)), .val (.ref b293), .val (.ref b312), .val (.ref b318), .unset, .unset]) rfl k) ?_
    show Done p e below s _ _ _ (T333.setTop (mkF m 77 #[.val (.int p1), .val (.long q2), .second, .val (.long q3), .second, .val (.long q4), .second, .val (.long q5), .second, .val (.int (4 : Int32)), .val (.ref b293), .val (.ref b312), .val (.ref b318), .unset, .unset] []))
    refine Done.step (fun t k => XS.iload X333.here hx rfl (hb hby at_77) rfl k) ?_
    show Done p e below s _ _ _ (T333.setTop (mkF m 79 #[.val (.int p1), .val (.long q2), .second, .val (.long q3), .second, .val (.long q4), .second, .val (.long q5), .second, .val (.int (4 : Int32)), .val (.ref b293), .val (.ref b312), .val (.ref b318), .unset, .unset] [(.int (4 : Int32))]))
    refine Done.step (fun t k => XS.ifNo X333.here hx rfl (hb hby at_79) rfl ((if0 _ _).trans (tlt (by decide)).2.2.2) k) ?_
    show Done p e below s _ _ _ (T333.setTop (mkF m 82 #[.val (.int p1), .val (.long q2), .second, .val (.long q3), .second, .val (.long q4), .second, .val (.long q5), .second, .val (.int (4 : Int32)), .val (.ref b293), .val (.ref b312), .val (.ref b318), .unset, .unset] []))
    refine Done.step (fun t k => XS.aload X333.here hx rfl (hb hby at_82) rfl rfl k) ?_
    show Done p e below s _ _ _ (T333.setTop (mkF m 84 #[.val (.int p1), .val (.long q2), .second, .val (.long q3), .second, .val (.long q4), .second, .val (.long q5), .second, .val (.int (4 : Int32)), .val (.ref b293), .val (.ref b312), .val (.ref b318), .unset, .unset] [(.ref b293)]))
    refine Done.step (fun t k => XS.iconst X333.here hx rfl (hb hby at_84) k) ?_
    show Done p e below s _ _ _ (T333.setTop (mkF m 85 #[.val (.int p1), .val (.long q2), .second, .val (.long q3), .second, .val (.long q4), .second, .val (.long q5), .second, .val (.int (4 : Int32)), .val (.ref b293), .val (.ref b312), .val (.ref b318), .unset, .unset] [(.int (0 : Int32)), (.ref b293)]))
    refine Done.step (fun t k => XS.lloadN X333.here hx rfl (hb hby at_85) rfl k) ?_
    show Done p e below s _ _ _ (T333.setTop (mkF m 86 #[.val (.int p1), .val (.long q2), .second, .val (.long q3), .second, .val (.long q4), .second, .val (.long q5), .second, .val (.int (4 : Int32)), .val (.ref b293), .val (.ref b312), .val (.ref b318), .unset, .unset] [(.long q2), (.int (0 : Int32)), (.ref b293)]))
    refine Done.step (fun t k => XS.lconst X333.here hx rfl (hb hby at_86) k) ?_
    show Done p e below s _ _ _ (T333.setTop (mkF m 87 #[.val (.int p1), .val (.long q2), .second, .val (.long q3), .second, .val (.long q4), .second, .val (.long q5), .second, .val (.int (4 : Int32)), .val (.ref b293), .val (.ref b312), .val (.ref b318), .unset, .unset] [(.long (1 : Int64)), (.long q2), (.int (0 : Int32)), (.ref b293)]))
    refine Done.step (fun t k => XS.lxor X333.here hx rfl (hb hby at_87) rfl k) ?_
    show Done p e below s _ _ _ (T333.setTop (mkF m 88 #[.val (.int p1), .val (.long q2), .second, .val (.long q3), .second, .val (.long q4), .second, .val (.long q5), .second, .val (.int (4 : Int32)), .val (.ref b293), .val (.ref b312), .val (.ref b318), .unset, .unset] [(.long (q2 ^^^ (1 : Int64))), (.int (0 : Int32)), (.ref b293)]))
    obtain ⟨T343, h343, X343, e343, W343, A343, st343⟩ := stoJ X333 hx hZ rfl f339 (j := (0 : Int32)) (by decide) (i := 0) (by decide) (Nat.le_of_ble_eq_true rfl) (g := (mkF m 88 #[.val (.int p1), .val (.long q2), .second, .val (.long q3), .second, .val (.long q4), .second, .val (.long q5), .second, .val (.int (4 : Int32)), .val (.ref b293), .val (.ref b312), .val (.ref b318), .unset, .unset] [(.long (q2 ^^^ (1 : Int64))), (.int (0 : Int32)), (.ref b293)])) rfl rfl (hb hby at_88)
    have f344 : Sta Z h343 "java/util/ArrayList" "DEFAULTCAPACITY_EMPTY_ELEMENTDATA" "[Ljava/lang/Object;" (.ref dea) := f337.wr W343
    have f345 : Exa Z h343 b293 "[J" := f338.wr W343
    have f346 : Ax Z h343 b293 .long [(.long (q2 ^^^ (1 : Int64))), (.long q3), (.long q4), (.long q5)] := A343
    have f347 : Exa Z h343 b312 "[J" := f340.wr W343
    have f348 : Ax Z h343 b312 .long [(.long (0 : Int64))] := f341.other W343 (Ne.symm ne313)
    have f349 : Exa Z h343 b318 "com/example/stowage/stowage/solve/HostLoad" := f342.wr W343
    have f350 : Fld Z h343 b318 "com/example/stowage/stowage/solve/HostLoad" "diskFree" "[J" (.ref d333) := y333.other W343 (Or.inl (Ne.symm ne319))
    have f351 : Ax Z h343 d333 .long [(.long q2), (.long q3), (.long q4), (.long q5)] := z333v.other W343 (Ne.symm ne334)
    have Z343 : n0 ≤ h343.size := Nat.le_trans Zk333 (Keep.of_wr W343).1
    have N343 := Fr.snoc X343 N333 g_b293
    refine Done.step st343 ?_
    show Done p e below s _ _ _ (T343.setTop (mkF m 89 #[.val (.int p1), .val (.long q2), .second, .val (.long q3), .second, .val (.long q4), .second, .val (.long q5), .second, .val (.int (4 : Int32)), .val (.ref b293), .val (.ref b312), .val (.ref b318), .unset, .unset] []))
    refine Done.step (fun t k => XS.iload X343.here hx rfl (hb hby at_89) rfl k) ?_
    show Done p e below s _ _ _ (T343.setTop (mkF m 91 #[.val (.int p1), .val (.long q2), .second, .val (.long q3), .second, .val (.long q4), .second, .val (.long q5), .second, .val (.int (4 : Int32)), .val (.ref b293), .val (.ref b312), .val (.ref b318), .unset, .unset] [(.int (4 : Int32))]))
    refine Done.step (fun t k => XS.ifNo X343.here hx rfl (hb hby at_91) rfl ((if0 _ _).trans (tlt (by decide)).2.2.2) k) ?_
    show Done p e below s _ _ _ (T343.setTop (mkF m 94 #[.val (.int p1), .val (.long q2), .second, .val (.long q3), .second, .val (.long q4), .second, .val (.long q5), .second, .val (.int (4 : Int32)), .val (.ref b293), .val (.ref b312), .val (.ref b318), .unset, .unset] []))
    refine Done.step (fun t k => XS.lloadN X343.here hx rfl (hb hby at_94) rfl k) ?_
    show Done p e below s _ _ _ (T343.setTop (mkF m 95 #[.val (.int p1), .val (.long q2), .second, .val (.long q3), .second, .val (.long q4), .second, .val (.long q5), .second, .val (.int (4 : Int32)), .val (.ref b293), .val (.ref b312), .val (.ref b318), .unset, .unset] [(.long q2)]))
    refine Done.step (fun t k => XS.goto X343.here hx rfl (pc0 := 95) (pc' := 99) rfl (hb hby at_95) (by decide) (by decide) k) ?_
    show Done p e below s _ _ _ (T343.setTop (mkF m 99 #[.val (.int p1), .val (.long q2), .second, .val (.long q3), .second, .val (.long q4), .second, .val (.long q5), .second, .val (.int (4 : Int32)), .val (.ref b293), .val (.ref b312), .val (.ref b318), .unset, .unset] [(.long q2)]))
    refine Done.step (fun t k => XS.iload X343.here hx rfl (hb hby at_99) rfl k) ?_
    show Done p e below s _ _ _ (T343.setTop (mkF m 101 #[.val (.int p1), .val (.long q2), .second, .val (.long q3), .second, .val (.long q4), .second, .val (.long q5), .second, .val (.int (4 : Int32)), .val (.ref b293), .val (.ref b312), .val (.ref b318), .unset, .unset] [(.int (4 : Int32)), (.long q2)]))
    refine Done.step (fun t k => XS.iconst X343.here hx rfl (hb hby at_101) k) ?_
    show Done p e below s _ _ _ (T343.setTop (mkF m 102 #[.val (.int p1), .val (.long q2), .second, .val (.long q3), .second, .val (.long q4), .second, .val (.long q5), .second, .val (.int (4 : Int32)), .val (.ref b293), .val (.ref b312), .val (.ref b318), .unset, .unset] [(.int (1 : Int32)), (.int (4 : Int32)), (.long q2)]))
    refine Done.step (fun t k => XS.icmpNo X343.here hx rfl (hb hby at_102) rfl (tlt (by decide)).2.2.2 k) ?_
    show Done p e below s _ _ _ (T343.setTop (mkF m 105 #[.val (.int p1), .val (.long q2), .second, .val (.long q3), .second, .val (.long q4), .second, .val (.long q5), .second, .val (.int (4 : Int32)), .val (.ref b293), .val (.ref b312), .val (.ref b318), .unset, .unset] [(.long q2)]))
    refine Done.step (fun t k => XS.lloadN X343.here hx rfl (hb hby at_105) rfl k) ?_
    show Done p e below s _ _ _ (T343.setTop (mkF m 106 #[.val (.int p1), .val (.long q2), .second, .val (.long q3), .second, .val (.long q4), .second, .val (.long q5), .second, .val (.int (4 : Int32)), .val (.ref b293), .val (.ref b312), .val (.ref b318), .unset, .unset] [(.long q3), (.long q2)]))
    refine Done.step (fun t k => XS.goto X343.here hx rfl (pc0 := 106) (pc' := 110) rfl (hb hby at_106) (by decide) (by decide) k) ?_
    show Done p e below s _ _ _ (T343.setTop (mkF m 110 #[.val (.int p1), .val (.long q2), .second, .val (.long q3), .second, .val (.long q4), .second, .val (.long q5), .second, .val (.int (4 : Int32)), .val (.ref b293), .val (.ref b312), .val (.ref b318), .unset, .unset] [(.long q3), (.long q2)]))
    refine Done.step (fun t k => XS.ladd X343.here hx rfl (hb hby at_110) rfl k) ?_
    show Done p e below s _ _ _ (T343.setTop (mkF m 111 #[.val (.int p1), .val (.long q2), .second, .val (.long q3), .second, .val (.long q4), .second, .val (.long q5), .second, .val (.int (4 : Int32)), .val (.ref b293), .val (.ref b312), .val (.ref b318), .unset, .unset] [(.long (q2 + q3))]))
    refine Done.step (fun t k => XS.iload X343.here hx rfl (hb hby at_111) rfl k) ?_
    show Done p e below s _ _ _ (T343.setTop (mkF m 113 #[.val (.int p1), .val (.long q2), .second, .val (.long q3), .second, .val (.long q4), .second, .val (.long q5), .second, .val (.int (4 : Int32)), .val (.ref b293), .val (.ref b312), .val (.ref b318), .unset, .unset] [(.int (4 : Int32)), (.long (q2 + q3))]))
    refine Done.step (fun t k => XS.iconst X343.here hx rfl (hb hby at_113) k) ?_
    show Done p e below s _ _ _ (T343.setTop (mkF m 114 #[.val (.int p1), .val (.long q2), .second, .val (.long q3), .second, .val (.long q4), .second, .val (.long q5), .second, .val (.int (4 : Int32)), .val (.ref b293), .val (.ref b312), .val (.ref b318), .unset, .unset] [(.int (2 : Int32)), (.int (4 : Int32)), (.long (q2 + q3))]))
    refine Done.step (fun t k => XS.icmpNo X343.here hx rfl (hb hby at_114) rfl (tlt (by decide)).2.2.2 k) ?_
    show Done p e below s _ _ _ (T343.setTop (mkF m 117 #[.val (.int p1), .val (.long q2), .second, .val (.long q3), .second, .val (.long q4), .second, .val (.long q5), .second, .val (.int (4 : Int32)), .val (.ref b293), .val (.ref b312), .val (.ref b318), .unset, .unset] [(.long (q2 + q3))]))
    refine Done.step (fun t k => XS.lload X343.here hx rfl (hb hby at_117) rfl k) ?_
    show Done p e below s _ _ _ (T343.setTop (mkF m 119 #[.val (.int p1), .val (.long q2), .second, .val (.long q3), .second, .val (.long q4), .second, .val (.long q5), .second, .val (.int (4 : Int32)), .val (.ref b293), .val (.ref b312), .val (.ref b318), .unset, .unset] [(.long q4), (.long (q2 + q3))]))
    refine Done.step (fun t k => XS.goto X343.here hx rfl (pc0 := 119) (pc' := 123) rfl (hb hby at_119) (by decide) (by decide) k) ?_
    show Done p e below s _ _ _ (T343.setTop (mkF m 123 #[.val (.int p1), .val (.long q2), .second, .val (.long q3), .second, .val (.long q4), .second, .val (.long q5), .second, .val (.int (4 : Int32)), .val (.ref b293), .val (.ref b312), .val (.ref b318), .unset, .unset] [(.long q4), (.long (q2 + q3))]))
    refine Done.step (fun t k => XS.ladd X343.here hx rfl (hb hby at_123) rfl k) ?_
    show Done p e below s _ _ _ (T343.setTop (mkF m 124 #[.val (.int p1), .val (.long q2), .second, .val (.long q3), .second, .val (.long q4), .second, .val (.long q5), .second, .val (.int (4 : Int32)), .val (.ref b293), .val (.ref b312), .val (.ref b318), .unset, .unset] [(.long ((q2 + q3) + q4))]))
    refine Done.step (fun t k => XS.iload X343.here hx rfl (hb hby at_124) rfl k) ?_
    show Done p e below s _ _ _ (T343.setTop (mkF m 126 #[.val (.int p1), .val (.long q2), .second, .val (.long q3), .second, .val (.long q4), .second, .val (.long q5), .second, .val (.int (4 : Int32)), .val (.ref b293), .val (.ref b312), .val (.ref b318), .unset, .unset] [(.int (4 : Int32)), (.long ((q2 + q3) + q4))]))
    refine Done.step (fun t k => XS.iconst X343.here hx rfl (hb hby at_126) k) ?_
    show Done p e below s _ _ _ (T343.setTop (mkF m 127 #[.val (.int p1), .val (.long q2), .second, .val (.long q3), .second, .val (.long q4), .second, .val (.long q5), .second, .val (.int (4 : Int32)), .val (.ref b293), .val (.ref b312), .val (.ref b318), .unset, .unset] [(.int (3 : Int32)), (.int (4 : Int32)), (.long ((q2 + q3) + q4))]))
    refine Done.step (fun t k => XS.icmpNo X343.here hx rfl (hb hby at_127) rfl (tlt (by decide)).2.2.2 k) ?_
    show Done p e below s _ _ _ (T343.setTop (mkF m 130 #[.val (.int p1), .val (.long q2), .second, .val (.long q3), .second, .val (.long q4), .second, .val (.long q5), .second, .val (.int (4 : Int32)), .val (.ref b293), .val (.ref b312), .val (.ref b318), .unset, .unset] [(.long ((q2 + q3) + q4))]))
    refine Done.step (fun t k => XS.lload X343.here hx rfl (hb hby at_130) rfl k) ?_
    show Done p e below s _ _ _ (T343.setTop (mkF m 132 #[.val (.int p1), .val (.long q2), .second, .val (.long q3), .second, .val (.long q4), .second, .val (.long q5), .second, .val (.int (4 : Int32)), .val (.ref b293), .val (.ref b312), .val (.ref b318), .unset, .unset] [(.long q5), (.long ((q2 + q3) + q4))]))
    refine Done.step (fun t k => XS.goto X343.here hx rfl (pc0 := 132) (pc' := 136) rfl (hb hby at_132) (by decide) (by decide) k) ?_
    show Done p e below s _ _ _ (T343.setTop (mkF m 136 #[.val (.int p1), .val (.long q2), .second, .val (.long q3), .second, .val (.long q4), .second, .val (.long q5), .second, .val (.int (4 : Int32)), .val (.ref b293), .val (.ref b312), .val (.ref b318), .unset, .unset] [(.long q5), (.long ((q2 + q3) + q4))]))
    refine Done.step (fun t k => XS.ladd X343.here hx rfl (hb hby at_136) rfl k) ?_
    show Done p e below s _ _ _ (T343.setTop (mkF m 137 #[.val (.int p1), .val (.long q2), .second, .val (.long q3), .second, .val (.long q4), .second, .val (.long q5), .second, .val (.int (4 : Int32)), .val (.ref b293), .val (.ref b312), .val (.ref b318), .unset, .unset] [(.long (((q2 + q3) + q4) + q5))]))
    refine Done.step (fun t k => XS.lstore X343.here hx rfl (hb hby at_137) rfl (l' := #[.val (.int p1), .val (.long q2), .second, .val (.long q3), .second, .val (.long q4), .second, .val (.long q5), .second, .val (.int (4 : Int32)), .val (.ref b293), .val (.ref b312), .val (.ref b318), .val (.long (((q2 + q3) + q4) + q5)), .second]) rfl k) ?_
    show Done p e below s _ _ _ (T343.setTop (mkF m 139 #[.val (.int p1), .val (.long q2), .second, .val (.long q3), .second, .val (.long q4), .second, .val (.long q5), .second, .val (.int (4 : Int32)), .val (.ref b293), .val (.ref b312), .val (.ref b318), .val (.long (((q2 + q3) + q4) + q5)), .second] []))
    refine Done.step (fun t k => XS.aload X343.here hx rfl (hb hby at_139) rfl rfl k) ?_
    show Done p e below s _ _ _ (T343.setTop (mkF m 141 #[.val (.int p1), .val (.long q2), .second, .val (.long q3), .second, .val (.long q4), .second, .val (.long q5), .second, .val (.int (4 : Int32)), .val (.ref b293), .val (.ref b312), .val (.ref b318), .val (.long (((q2 + q3) + q4) + q5)), .second] [(.ref b318)]))
    obtain ⟨cq352, kq352, q352a, q352b, q352c⟩ := isOf hZ e343 f349
    obtain ⟨v352, _, ⟨T352, L352, k352, n352⟩, -, X352, ⟨Lc352, hQ352, l352, y352, z352⟩, st352⟩ := X343.virtualBack hx (y := (⟨"com/example/stowage/stowage/solve/HostLoad", "freeDiskSpace", "()J"⟩ : MethodName)) (z := (⟨"com/example/stowage/stowage/solve/HostLoad", "freeDiskSpace", "()J"⟩ : MethodName)) hown (mvT hZ (hw _ (List.mem_of_getElem? (i := 74) rfl))) (mvT hZ (hw _ (List.mem_of_getElem? (i := 75) rfl))) (notFace_of_selects (args := #[]) (mvT hZ (hw _ (List.mem_of_getElem? (i := 77) rfl)))) (mvT hZ (hw _ (List.mem_of_getElem? (i := 77) rfl))) (mvT hZ (hw _ (List.mem_of_getElem? (i := 76) rfl))) (by decide) (backOf (W := 0) (rm8 l Z a0 hw [] b318 d333 [q2, q3, q4, q5] h343 n0 Z343 f350 f351 (Nat.le_of_ble_eq_true rfl)) hZ (hw _ (List.mem_of_getElem? (i := 78) rfl)) (hw _ (List.mem_of_getElem? (i := 4) rfl)) (by decide) (by decide)) q352a q352c (g := (mkF m 141 #[.val (.int p1), .val (.long q2), .second, .val (.long q3), .second, .val (.long q4), .second, .val (.long q5), .second, .val (.int (4 : Int32)), .val (.ref b293), .val (.ref b312), .val (.ref b318), .val (.long (((q2 + q3) + q4) + q5)), .second] [(.ref b318)])) rfl (by rw [hml]; rfl) (Steps.refl _) (argsL := []) (rest := []) (lenOf pd_2 rfl) rfl (by show 2 * 0 + _ ≤ _; exact Nat.le_of_eq rfl) (hb hby at_141) (fun _ _ => ⟨rfl, e343, (by decide : 10 + 0 ≤ _), (by decide : 39 + 0 ≤ _)⟩)
    dsimp only [Pt.U, Pt.locs, Pt.cells, Pt.slots] at X352 l352 y352 z352 st352 hQ352
    subst l352 y352 z352
    refine Done.far st352 ?_
    obtain ⟨rfl, N352q, e352⟩ := hQ352
    have N352 := Fr.app N343 N352q
    show Done p e below s _ _ _ (T352.setTop (mkF m 144 #[.val (.int p1), .val (.long q2), .second, .val (.long q3), .second, .val (.long q4), .second, .val (.long q5), .second, .val (.int (4 : Int32)), .val (.ref b293), .val (.ref b312), .val (.ref b318), .val (.long (((q2 + q3) + q4) + q5)), .second] [(.long (List.foldl (· + ·) (0 : Int64) [q2, q3, q4, q5]))]))
    refine Done.step (fun t k => XS.lload X352.here hx rfl (hb hby at_144) rfl k) ?_
    show Done p e below s _ _ _ (T352.setTop (mkF m 146 #[.val (.int p1), .val (.long q2), .second, .val (.long q3), .second, .val (.long q4), .second, .val (.long q5), .second, .val (.int (4 : Int32)), .val (.ref b293), .val (.ref b312), .val (.ref b318), .val (.long (((q2 + q3) + q4) + q5)), .second] [(.long (((q2 + q3) + q4) + q5)), (.long (List.foldl (· + ·) (0 : Int64) [q2, q3, q4, q5]))]))
    refine Done.step (fun t k => XS.lcmp X352.here hx rfl (hb hby at_146) rfl k) ?_
    show Done p e below s _ _ _ (T352.setTop (mkF m 147 #[.val (.int p1), .val (.long q2), .second, .val (.long q3), .second, .val (.long q4), .second, .val (.long q5), .second, .val (.int (4 : Int32)), .val (.ref b293), .val (.ref b312), .val (.ref b318), .val (.long (((q2 + q3) + q4) + q5)), .second] [(.int (lcmpW (List.foldl (· + ·) (0 : Int64) [q2, q3, q4, q5]) (((q2 + q3) + q4) + q5)))]))
    refine Done.step (fun t k => XS.ifNo X352.here hx rfl (hb hby at_147) rfl ((if0 _ _).trans (teq ((lw_eq _ _).mpr (show (List.foldl (· + ·) (0 : Int64) [q2, q3, q4, q5]) = (((q2 + q3) + q4) + q5) from (by simp [List.foldl])))).2) k) ?_
    show Done p e below s _ _ _ (T352.setTop (mkF m 150 #[.val (.int p1), .val (.long q2), .second, .val (.long q3), .second, .val (.long q4), .second, .val (.long q5), .second, .val (.int (4 : Int32)), .val (.ref b293), .val (.ref b312), .val (.ref b318), .val (.long (((q2 + q3) + q4) + q5)), .second] []))
    refine Done.step (fun t k => XS.iconst X352.here hx rfl (hb hby at_150) k) ?_
    show Done p e below s _ _ _ (T352.setTop (mkF m 151 #[.val (.int p1), .val (.long q2), .second, .val (.long q3), .second, .val (.long q4), .second, .val (.long q5), .second, .val (.int (4 : Int32)), .val (.ref b293), .val (.ref b312), .val (.ref b318), .val (.long (((q2 + q3) + q4) + q5)), .second] [(.int (1 : Int32))]))
    refine Done.step (fun t k => XS.goto X352.here hx rfl (pc0 := 151) (pc' := 155) rfl (hb hby at_151) (by decide) (by decide) k) ?_
    show Done p e below s _ _ _ (T352.setTop (mkF m 155 #[.val (.int p1), .val (.long q2), .second, .val (.long q3), .second, .val (.long q4), .second, .val (.long q5), .second, .val (.int (4 : Int32)), .val (.ref b293), .val (.ref b312), .val (.ref b318), .val (.long (((q2 + q3) + q4) + q5)), .second] [(.int (1 : Int32))]))
    exact Done.narr X352 hx hlk hret (by simp) (hb hby at_155) (by decide) (by decide) ⟨rfl, N352⟩
set_option maxRecDepth 65536 in
set_option maxHeartbeats 40000000 in
theorem comes_1 {Post : Tables → Env → Array Value → State → Outcome → State → Prop} (hpost : ∀ tb e args s v u, (limb_1_1.after args s (.returned v) u = true ∧ limb_1_2.after args s (.returned v) u = true ∧ True) → FrameEnd s (.returned v) u (Jvm.fieldLocs frame_1_writes args s ++ Jvm.arrayLocs frame_1_arrays args s ++ Jvm.staticLocs frame_1_statics s) 32 192 → Post tb e args s (.returned v) u) :
    ArmFor flags0 classFile x code maxLocals ret World_1 tables_1 room_1 Calls_1 rest_1 Pre_1 Post := by
  intro l hfl _ _ p e ha hc hk s m args below hf hA hF happ hP
  obtain ⟨hcalls, hrest, hpre⟩ := hP
  obtain ⟨-, -, -, hnamed, -, -, -, hat⟩ := (Spec.applies_iff hf).mp happ
  obtain ⟨hg, hn⟩ := and_e (Cond.before_iff.mp (show (Jvm.Cond.and given_1 narrow_1).before args s = true from hpre))
  obtain ⟨hcnt, g0⟩ := and_e hg
  obtain ⟨u0, g1⟩ := and_e g0
  obtain ⟨u1, g2⟩ := and_e g1
  obtain ⟨u2, g3⟩ := and_e g2
  obtain ⟨u3, g4⟩ := and_e g3
  have u4 := g4
  obtain ⟨w0, w1, w2, w3, w4, rfl⟩ : ∃ w0 w1 w2 w3 w4 : Value, args = #[w0, w1, w2, w3, w4] := by
    have hs : args.size = 5 := by simpa [Cond.value, given_1] using hcnt
    obtain ⟨L⟩ := args
    match L, hs with
    | [w0, w1, w2, w3, w4], _ => exact ⟨w0, w1, w2, w3, w4, rfl⟩
  have hw := fun d (hd : d ∈ tables_1) => atoms_spec (ws := Jvm.Cond.code x code maxLocals ret :: tables_1) hat d (List.mem_cons_of_mem _ hd)
  have hfit : Fit s := fun {y c} hc i hi => by
    obtain ⟨ha, rfl⟩ := Array.getElem?_eq_some_iff.mp hc
    have q := List.all_eq_true.mp ((Array.all_eq_true_iff_forall_mem.mp hF) _ (Array.getElem_mem ha)) i (List.mem_range.mpr hi)
    simpa [Array.getElem?_eq_getElem hi] using q
  obtain ⟨i0, ei0⟩ := is_v u0
  obtain rfl : w0 = (.int i0) := Option.some.inj ei0
  obtain ⟨i1, ei1⟩ := isL_v u1
  obtain rfl : w1 = (.long i1) := Option.some.inj ei1
  obtain ⟨i2, ei2⟩ := isL_v u2
  obtain rfl : w2 = (.long i2) := Option.some.inj ei2
  obtain ⟨i3, ei3⟩ := isL_v u3
  obtain rfl : w3 = (.long i3) := Option.some.inj ei3
  obtain ⟨i4, ei4⟩ := isL_v u4
  obtain rfl : w4 = (.long i4) := Option.some.inj ei4
  obtain ⟨hsets, hown0⟩ := atoms_of _ (rest_1_c_eq ▸ (show rest_1_c.before _ s = true from hrest))
  obtain ⟨dea, ede⟩ := exa_v (Cond.before_iff.mp (hsets _ (List.mem_of_getElem? (i := 7) rfl)))
  obtain ⟨n, o, h1, h2, h3, _, L, rfl, ⟨rfl, N⟩, hq⟩ := rm0 l s _ hw tables_1 i0 i1 i2 i3 i4 dea s.heap s.heap.size (Nat.le_refl _) (Sta.start ede (Or.inr ⟨(hw _ (List.mem_of_getElem? (i := 13) rfl)), hsets _ (List.mem_of_getElem? (i := 2) rfl)⟩)) p e ha hc hk s m _ below hf ((Spec.applies_iff_loose hf).mp happ).1 ⟨rfl, State.Warmed39.refl s, rfl⟩ trivial
  refine ⟨n, _, h1, h2, h3, hpost _ _ _ _ _ _ ⟨Cond.after_iff.mpr rfl, Cond.after_iff.mpr (eq_i res_at (Term.int_eval (1)) rfl), trivial⟩ ⟨hq.1, hq.2.1, (hq.2.2.sift fun y hy => Or.inr (N y hy)).mono (by decide) (by decide)⟩⟩
theorem main_1_1 : Claimed_1_1 := comes_1 fun _ _ _ _ _ _ h hF => ⟨h.1, hF⟩
theorem main_1_2 : Claimed_1_2 := comes_1 fun _ _ _ _ _ _ h hF => ⟨h.2.1, hF⟩
end Jvm.Pilot.@@N@@
namespace Jvm.Pilot.@@N@@
open Jvm Jvm.ClassFile Sem Op Lib Jvm.Free Jvm.Stand Jvm.Pilot.@@N@@.Jvm.D
/-! MADE BY PROGRAM (witnessworld.py) out of the Statement's table words and the real class files: 23 classes; the members and pool entries that the words name. The judged class is class 1, her method 1. -/
namespace start1
open Jvm.ClassFile
def u (s : String) : CpInfo := .utf8 (stringToUtf16 s)
/-- a pool by its gaps: so many unusable entries, then the entry; so many at the end -/
def gap : Nat → List CpInfo → List CpInfo
  | 0, r => r
  | n + 1, r => .unusable :: gap n r
def poolList (es : List (Nat × CpInfo)) (last : Nat) : List CpInfo := es.foldr (fun e r => gap e.1 (e.2 :: r)) (gap last [])
def pool (es : List (Nat × CpInfo)) (last : Nat) : Array CpInfo := ⟨poolList es last⟩
def fileOf (pool : Array CpInfo) (this : Nat) (attrs : Array Attribute := #[]) (ms : Array MethodInfo := #[]) (fl : Nat := 33) (sup : Nat := 0) (ifs : Array Nat := #[]) (fds : Array FieldInfo := #[]) : ClassFile where
  minorVersion := 0
  majorVersion := 65
  constantPool := pool
  accessFlags := fl
  thisClass := this
  superClass := sup
  interfaces := ifs
  fields := fds
  methods := ms
  attributes := attrs
def plain (name : String) (sup : Option ClassId) : Class where
  name := name
  kind := .ordinary
  loader := none
  accessFlags := 33
  super := sup
  interfaces := #[]
  cf := none
  fields := #[]
  methods := #[]
  instanceTypes := #[]
  staticTypes := #[]
  resolved := #[]
  callSites := []
  init := .initialized
  statics := none
  mirror := none

def pool0 : Array CpInfo := pool [(5, u "<init>"), (0, u "()V"), (1, .class_ 10), (1, u "java/lang/Object"), (85, u "clone"), (0, u "()Ljava/lang/Object;")] 26

def k0c0 : Code := { maxStack := 0, maxLocals := 1, code := object_method_1_code, exceptionTable := #[], attributes := #[] }
def k0m0 : Method := { name := "<init>", desc := "()V", sig := { parameters := [], returnType := none }, accessFlags := 1, code := some k0c0 }
def k0m1 : Method := { name := "clone", desc := "()Ljava/lang/Object;", sig := { parameters := [], returnType := some (.object "java/lang/Object") }, accessFlags := 260, code := none }
/-- java/lang/Object -/
def k0 : Class := { plain "java/lang/Object" none with
  accessFlags := 33
  interfaces := #[]
  cf := some (fileOf pool0 8 #[] #[{ accessFlags := 1, nameIndex := 5, descriptorIndex := 6, attributes := #[] }, { accessFlags := 260, nameIndex := 96, descriptorIndex := 97, attributes := #[] }] 33 0 #[] #[])
  fields := #[]
  methods := #[k0m0, k0m1]
  instanceTypes := #[]
  staticTypes := #[]
  resolved := Array.replicate 124 none
  statics := none }

def pool1 : Array CpInfo := pool [(2, .class_ 4), (1, u "java/lang/Object"), (0, u "<init>"), (0, u "()V"), (0, .integer 2147483647), (0, .class_ 9), (0, u "com/example/stowage/stowage/solve/HostLoad"), (0, .methodref 8 11), (0, .nameAndType 5 12), (0, u "([J[J)V"), (0, .methodref 8 14), (0, .nameAndType 15 16), (0, u "freeDiskSpace"), (0, u "()J"), (0, .class_ 18), (0, u "com/example/stowage/stowage/solve/HostLoadFreeDiskSpacePinLaw"), (2, u "law"), (0, u "(IJJJJ)Z")] 5

def k1m0 : Method := { name := "<init>", desc := "()V", sig := { parameters := [], returnType := none }, accessFlags := 1, code := none }
def k1c1 : Code := { maxStack := 6, maxLocals := 15, code := code, exceptionTable := #[], attributes := #[] }
def k1m1 : Method := { name := "law", desc := "(IJJJJ)Z", sig := { parameters := [.int, .long, .long, .long, .long], returnType := some .boolean }, accessFlags := 9, code := some k1c1 }
/-- com/example/stowage/stowage/solve/HostLoadFreeDiskSpacePinLaw -/
def k1 : Class := { plain "com/example/stowage/stowage/solve/HostLoadFreeDiskSpacePinLaw" (some 0) with
  accessFlags := 49
  interfaces := #[]
  cf := some (fileOf pool1 17 #[] #[{ accessFlags := 1, nameIndex := 5, descriptorIndex := 6, attributes := #[] }, { accessFlags := 9, nameIndex := 21, descriptorIndex := 22, attributes := #[] }] 49 2 #[] #[])
  fields := #[]
  methods := #[k1m0, k1m1]
  instanceTypes := #[]
  staticTypes := #[]
  resolved := Array.replicate 28 none
  statics := none }

def pool2 : Array CpInfo := pool [(1, .methodref 2 3), (0, .class_ 4), (0, .nameAndType 5 6), (0, u "java/lang/Object"), (0, u "<init>"), (0, u "()V"), (0, .class_ 8), (0, u "java/util/ArrayList"), (0, .methodref 7 3), (0, .fieldref 11 12), (0, .class_ 13), (0, .nameAndType 14 15), (0, u "com/example/stowage/stowage/solve/HostLoad"), (0, u "vms"), (0, u "Ljava/util/List;"), (0, .fieldref 11 17), (0, .nameAndType 18 15), (0, u "requests"), (0, .fieldref 11 20), (0, .nameAndType 21 15), (0, u "vmDisks"), (0, .class_ 23), (0, u "java/util/HashMap"), (0, .methodref 22 3), (0, .fieldref 11 26), (0, .nameAndType 27 28), (0, u "ruled"), (0, u "Ljava/util/Map;"), (0, .methodref 30 31), (0, .class_ 32), (0, .nameAndType 33 34), (0, u "[J"), (0, u "clone"), (0, u "()Ljava/lang/Object;"), (0, .fieldref 11 36), (0, .nameAndType 37 32), (0, u "disks"), (0, .fieldref 11 39), (0, .nameAndType 40 32), (0, u "free"), (0, .fieldref 11 42), (0, .nameAndType 43 32), (0, u "diskFree"), (23, u "dedicated"), (0, u "Lcom/example/stowage/stowage/model/Request;"), (88, u "([J[J)V"), (15, u "freeDiskSpace"), (0, u "()J")] 35

def k2c0 : Code := { maxStack := 3, maxLocals := 3, code := prog_29_method_1_code, exceptionTable := #[], attributes := #[] }
def k2m0 : Method := { name := "<init>", desc := "([J[J)V", sig := { parameters := [(.array .long), (.array .long)], returnType := none }, accessFlags := 0, code := some k2c0 }
def k2c1 : Code := { maxStack := 4, maxLocals := 8, code := prog_29_method_12_code, exceptionTable := #[], attributes := #[] }
def k2m1 : Method := { name := "freeDiskSpace", desc := "()J", sig := { parameters := [], returnType := some .long }, accessFlags := 0, code := some k2c1 }
/-- com/example/stowage/stowage/solve/HostLoad -/
def k2 : Class := { plain "com/example/stowage/stowage/solve/HostLoad" (some 0) with
  accessFlags := 32
  interfaces := #[]
  cf := some (fileOf pool2 11 #[] #[{ accessFlags := 0, nameIndex := 5, descriptorIndex := 157, attributes := #[] }, { accessFlags := 0, nameIndex := 173, descriptorIndex := 174, attributes := #[] }] 32 2 #[] #[{ accessFlags := 18, nameIndex := 37, descriptorIndex := 32, attributes := #[] }, { accessFlags := 18, nameIndex := 40, descriptorIndex := 32, attributes := #[] }, { accessFlags := 18, nameIndex := 43, descriptorIndex := 32, attributes := #[] }, { accessFlags := 18, nameIndex := 14, descriptorIndex := 15, attributes := #[] }, { accessFlags := 18, nameIndex := 18, descriptorIndex := 15, attributes := #[] }, { accessFlags := 18, nameIndex := 21, descriptorIndex := 15, attributes := #[] }, { accessFlags := 18, nameIndex := 27, descriptorIndex := 28, attributes := #[] }, { accessFlags := 2, nameIndex := 67, descriptorIndex := 68, attributes := #[] }])
  fields := #[{ name := "disks", type := (.array .long), accessFlags := 18, slot := 0, constantValue := 0 }, { name := "free", type := (.array .long), accessFlags := 18, slot := 1, constantValue := 0 }, { name := "diskFree", type := (.array .long), accessFlags := 18, slot := 2, constantValue := 0 }, { name := "vms", type := (.object "java/util/List"), accessFlags := 18, slot := 3, constantValue := 0 }, { name := "requests", type := (.object "java/util/List"), accessFlags := 18, slot := 4, constantValue := 0 }, { name := "vmDisks", type := (.object "java/util/List"), accessFlags := 18, slot := 5, constantValue := 0 }, { name := "ruled", type := (.object "java/util/Map"), accessFlags := 18, slot := 6, constantValue := 0 }, { name := "dedicated", type := (.object "com/example/stowage/stowage/model/Request"), accessFlags := 2, slot := 7, constantValue := 0 }]
  methods := #[k2m0, k2m1]
  instanceTypes := #[(.array .long), (.array .long), (.array .long), (.object "java/util/List"), (.object "java/util/List"), (.object "java/util/List"), (.object "java/util/Map"), (.object "com/example/stowage/stowage/model/Request")]
  staticTypes := #[]
  resolved := Array.replicate 210 none
  statics := none }

def pool3 : Array CpInfo := pool [(8, .class_ 10), (1, u "java/lang/Iterable"), (24, .class_ 36), (0, u "java/lang/Object")] 25

/-- java/lang/Iterable -/
def k3 : Class := { plain "java/lang/Iterable" (some 0) with
  accessFlags := 1537
  interfaces := #[]
  cf := some (fileOf pool3 8 #[] #[] 1537 35 #[] #[])
  fields := #[]
  methods := #[]
  instanceTypes := #[]
  staticTypes := #[]
  resolved := Array.replicate 62 none
  statics := none }

def pool4 : Array CpInfo := pool [(10, .class_ 12), (1, u "java/util/Collection"), (47, .class_ 61), (0, u "java/lang/Object"), (0, .class_ 63), (0, u "java/lang/Iterable")] 51

/-- java/util/Collection -/
def k4 : Class := { plain "java/util/Collection" (some 0) with
  accessFlags := 1537
  interfaces := #[3]
  cf := some (fileOf pool4 10 #[] #[] 1537 60 #[62] #[])
  fields := #[]
  methods := #[]
  instanceTypes := #[]
  staticTypes := #[]
  resolved := Array.replicate 115 none
  statics := none }

def pool5 : Array CpInfo := pool [(1, .methodref 2 3), (0, .class_ 4), (0, .nameAndType 5 6), (0, u "java/lang/Object"), (0, u "<init>"), (0, u "()V"), (1, .class_ 10), (1, u "java/util/AbstractCollection"), (66, .class_ 78), (0, u "java/util/Collection")] 81

def k5c0 : Code := { maxStack := 1, maxLocals := 1, code := jdk_22_method_1_code, exceptionTable := #[], attributes := #[] }
def k5m0 : Method := { name := "<init>", desc := "()V", sig := { parameters := [], returnType := none }, accessFlags := 4, code := some k5c0 }
/-- java/util/AbstractCollection -/
def k5 : Class := { plain "java/util/AbstractCollection" (some 0) with
  accessFlags := 1057
  interfaces := #[4]
  cf := some (fileOf pool5 8 #[] #[{ accessFlags := 4, nameIndex := 5, descriptorIndex := 6, attributes := #[] }] 1057 2 #[77] #[])
  fields := #[]
  methods := #[k5m0]
  instanceTypes := #[]
  staticTypes := #[]
  resolved := Array.replicate 160 none
  statics := none }

def pool6 : Array CpInfo := pool [(8, .class_ 10), (1, u "java/util/SequencedCollection"), (15, .class_ 27), (0, u "java/lang/Object"), (0, .class_ 29), (0, u "java/util/Collection")] 27

/-- java/util/SequencedCollection -/
def k6 : Class := { plain "java/util/SequencedCollection" (some 0) with
  accessFlags := 1537
  interfaces := #[4]
  cf := some (fileOf pool6 8 #[] #[] 1537 26 #[28] #[])
  fields := #[]
  methods := #[]
  instanceTypes := #[]
  staticTypes := #[]
  resolved := Array.replicate 57 none
  statics := none }

def pool7 : Array CpInfo := pool [(8, .class_ 10), (1, u "java/util/List"), (92, .class_ 104), (0, u "java/lang/Object"), (15, .class_ 121), (0, u "java/util/SequencedCollection")] 129

/-- java/util/List -/
def k7 : Class := { plain "java/util/List" (some 0) with
  accessFlags := 1537
  interfaces := #[6]
  cf := some (fileOf pool7 8 #[] #[] 1537 103 #[120] #[])
  fields := #[]
  methods := #[]
  instanceTypes := #[]
  staticTypes := #[]
  resolved := Array.replicate 251 none
  statics := none }

def pool8 : Array CpInfo := pool [(1, .methodref 2 3), (0, .class_ 4), (0, .nameAndType 5 6), (0, u "java/util/AbstractCollection"), (0, u "<init>"), (0, u "()V"), (0, .fieldref 8 9), (0, .class_ 10), (0, .nameAndType 11 12), (0, u "java/util/AbstractList"), (0, u "modCount"), (0, u "I"), (64, .class_ 78), (0, u "java/util/AbstractList$Itr"), (3, .class_ 83), (0, u "java/util/AbstractList$ListItr"), (9, .class_ 94), (0, u "java/util/AbstractList$RandomAccessSubList"), (3, .class_ 99), (0, u "java/util/AbstractList$SubList"), (33, .class_ 134), (0, u "java/util/List"), (73, .class_ 209), (0, u "java/util/AbstractList$SubList$1"), (0, .class_ 211), (0, u "java/util/AbstractList$RandomAccessSpliterator")] 6

def k8c0 : Code := { maxStack := 2, maxLocals := 1, code := jdk_39_method_1_code, exceptionTable := #[], attributes := #[] }
def k8m0 : Method := { name := "<init>", desc := "()V", sig := { parameters := [], returnType := none }, accessFlags := 4, code := some k8c0 }
/-- java/util/AbstractList -/
def k8 : Class := { plain "java/util/AbstractList" (some 5) with
  accessFlags := 1057
  interfaces := #[7]
  cf := some (fileOf pool8 8 #[.nestMembers #[93, 98, 208, 210, 82, 77]] #[{ accessFlags := 4, nameIndex := 5, descriptorIndex := 6, attributes := #[] }] 1057 2 #[133] #[{ accessFlags := 132, nameIndex := 11, descriptorIndex := 12, attributes := #[] }])
  fields := #[{ name := "modCount", type := .int, accessFlags := 132, slot := 0, constantValue := 0 }]
  methods := #[k8m0]
  instanceTypes := #[.int]
  staticTypes := #[]
  resolved := Array.replicate 218 none
  statics := none }

def pool9 : Array CpInfo := pool [(1, .class_ 2), (0, u "java/util/RandomAccess"), (0, .class_ 4), (0, u "java/lang/Object")] 2

/-- java/util/RandomAccess -/
def k9 : Class := { plain "java/util/RandomAccess" (some 0) with
  accessFlags := 1537
  interfaces := #[]
  cf := some (fileOf pool9 1 #[] #[] 1537 3 #[] #[])
  fields := #[]
  methods := #[]
  instanceTypes := #[]
  staticTypes := #[]
  resolved := Array.replicate 7 none
  statics := none }

def pool10 : Array CpInfo := pool [(1, .class_ 2), (0, u "java/lang/Cloneable"), (0, .class_ 4), (0, u "java/lang/Object")] 2

/-- java/lang/Cloneable -/
def k10 : Class := { plain "java/lang/Cloneable" (some 0) with
  accessFlags := 1537
  interfaces := #[]
  cf := some (fileOf pool10 1 #[] #[] 1537 3 #[] #[])
  fields := #[]
  methods := #[]
  instanceTypes := #[]
  staticTypes := #[]
  resolved := Array.replicate 7 none
  statics := none }

def pool11 : Array CpInfo := pool [(1, .class_ 2), (0, u "java/io/Serializable"), (0, .class_ 4), (0, u "java/lang/Object")] 2

/-- java/io/Serializable -/
def k11 : Class := { plain "java/io/Serializable" (some 0) with
  accessFlags := 1537
  interfaces := #[]
  cf := some (fileOf pool11 1 #[] #[] 1537 3 #[] #[])
  fields := #[]
  methods := #[]
  instanceTypes := #[]
  staticTypes := #[]
  resolved := Array.replicate 7 none
  statics := none }

def pool12 : Array CpInfo := pool [(1, .methodref 2 3), (0, .class_ 4), (0, .nameAndType 5 6), (0, u "java/util/AbstractList"), (0, u "<init>"), (0, u "()V"), (2, .fieldref 10 11), (0, .class_ 12), (0, .nameAndType 13 14), (0, u "java/util/ArrayList"), (0, u "elementData"), (0, u "[Ljava/lang/Object;"), (2, u "EMPTY_ELEMENTDATA"), (21, .fieldref 10 40), (0, .nameAndType 41 14), (0, u "DEFAULTCAPACITY_EMPTY_ELEMENTDATA"), (8, u "size"), (0, u "I"), (96, .class_ 149), (0, u "java/util/List"), (112, .class_ 263), (0, u "java/util/ArrayList$ListItr"), (3, .class_ 268), (0, u "java/util/ArrayList$Itr"), (7, .class_ 277), (0, u "java/util/ArrayList$SubList"), (12, .class_ 291), (0, u "java/util/ArrayList$ArrayListSpliterator"), (37, .class_ 330), (0, u "java/util/RandomAccess"), (0, .class_ 332), (0, u "java/lang/Cloneable"), (0, .class_ 334), (0, u "java/io/Serializable"), (0, u "serialVersionUID"), (0, u "J"), (3, u "DEFAULT_CAPACITY"), (159, .class_ 501), (0, u "java/util/ArrayList$SubList$2"), (0, .class_ 503), (0, u "java/util/ArrayList$SubList$1")] 5

def k12c0 : Code := { maxStack := 2, maxLocals := 1, code := jdk_38_method_2_code, exceptionTable := #[], attributes := #[] }
def k12m0 : Method := { name := "<init>", desc := "()V", sig := { parameters := [], returnType := none }, accessFlags := 1, code := some k12c0 }
/-- java/util/ArrayList -/
def k12 : Class := { plain "java/util/ArrayList" (some 8) with
  accessFlags := 33
  interfaces := #[7, 9, 10, 11]
  cf := some (fileOf pool12 10 #[.nestMembers #[290, 276, 500, 502, 262, 267]] #[{ accessFlags := 1, nameIndex := 5, descriptorIndex := 6, attributes := #[] }] 33 2 #[148, 329, 331, 333] #[{ accessFlags := 26, nameIndex := 335, descriptorIndex := 336, attributes := #[] }, { accessFlags := 26, nameIndex := 340, descriptorIndex := 51, attributes := #[] }, { accessFlags := 26, nameIndex := 17, descriptorIndex := 14, attributes := #[] }, { accessFlags := 26, nameIndex := 41, descriptorIndex := 14, attributes := #[] }, { accessFlags := 128, nameIndex := 13, descriptorIndex := 14, attributes := #[] }, { accessFlags := 2, nameIndex := 50, descriptorIndex := 51, attributes := #[] }])
  fields := #[{ name := "serialVersionUID", type := .long, accessFlags := 26, slot := 0, constantValue := 0 }, { name := "DEFAULT_CAPACITY", type := .int, accessFlags := 26, slot := 1, constantValue := 0 }, { name := "EMPTY_ELEMENTDATA", type := (.array (.object "java/lang/Object")), accessFlags := 26, slot := 2, constantValue := 0 }, { name := "DEFAULTCAPACITY_EMPTY_ELEMENTDATA", type := (.array (.object "java/lang/Object")), accessFlags := 26, slot := 3, constantValue := 0 }, { name := "elementData", type := (.array (.object "java/lang/Object")), accessFlags := 128, slot := 1, constantValue := 0 }, { name := "size", type := .int, accessFlags := 2, slot := 2, constantValue := 0 }]
  methods := #[k12m0]
  instanceTypes := #[.int, (.array (.object "java/lang/Object")), .int]
  staticTypes := #[.long, .int, (.array (.object "java/lang/Object")), (.array (.object "java/lang/Object"))]
  resolved := Array.replicate 509 none
  statics := some 0 }

def pool13 : Array CpInfo := pool [(2, .class_ 4), (1, u "java/util/Map"), (31, .class_ 37), (0, u "java/util/Map$Entry"), (55, .class_ 94), (0, u "java/lang/Object")] 168

/-- java/util/Map -/
def k13 : Class := { plain "java/util/Map" (some 0) with
  accessFlags := 1537
  interfaces := #[]
  cf := some (fileOf pool13 2 #[.nestMembers #[36]] #[] 1537 93 #[] #[])
  fields := #[]
  methods := #[]
  instanceTypes := #[]
  staticTypes := #[]
  resolved := Array.replicate 263 none
  statics := none }

def pool14 : Array CpInfo := pool [(1, .methodref 2 3), (0, .class_ 4), (0, .nameAndType 5 6), (0, u "java/lang/Object"), (0, u "<init>"), (0, u "()V"), (1, .class_ 10), (1, u "java/util/AbstractMap"), (42, .class_ 54), (0, u "java/util/Map"), (9, u "keySet"), (0, u "Ljava/util/Set;"), (0, .class_ 67), (0, u "java/util/AbstractMap$1"), (5, u "values"), (0, u "Ljava/util/Collection;"), (0, .class_ 76), (0, u "java/util/AbstractMap$2"), (104, .class_ 182), (0, u "java/util/AbstractMap$ViewCollection"), (0, .class_ 184), (0, u "java/util/AbstractMap$SimpleImmutableEntry"), (0, .class_ 186), (0, u "java/util/AbstractMap$SimpleEntry"), (0, .class_ 188), (0, u "java/util/AbstractMap$2$1"), (0, .class_ 190), (0, u "java/util/AbstractMap$1$1")] 5

def k14c0 : Code := { maxStack := 1, maxLocals := 1, code := jdk_71_method_1_code, exceptionTable := #[], attributes := #[] }
def k14m0 : Method := { name := "<init>", desc := "()V", sig := { parameters := [], returnType := none }, accessFlags := 4, code := some k14c0 }
/-- java/util/AbstractMap -/
def k14 : Class := { plain "java/util/AbstractMap" (some 0) with
  accessFlags := 1057
  interfaces := #[13]
  cf := some (fileOf pool14 8 #[.nestMembers #[181, 183, 185, 75, 187, 66, 189]] #[{ accessFlags := 4, nameIndex := 5, descriptorIndex := 6, attributes := #[] }] 1057 2 #[53] #[{ accessFlags := 128, nameIndex := 64, descriptorIndex := 65, attributes := #[] }, { accessFlags := 128, nameIndex := 73, descriptorIndex := 74, attributes := #[] }])
  fields := #[{ name := "keySet", type := (.object "java/util/Set"), accessFlags := 128, slot := 0, constantValue := 0 }, { name := "values", type := (.object "java/util/Collection"), accessFlags := 128, slot := 1, constantValue := 0 }]
  methods := #[k14m0]
  instanceTypes := #[(.object "java/util/Set"), (.object "java/util/Collection")]
  staticTypes := #[]
  resolved := Array.replicate 196 none
  statics := none }

def pool15 : Array CpInfo := pool [(40, .class_ 41), (0, u "java/util/HashMap"), (1, .methodref 44 45), (0, .class_ 46), (0, .nameAndType 47 48), (0, u "java/util/AbstractMap"), (0, u "<init>"), (0, u "()V"), (32, .fieldref 40 82), (0, .nameAndType 83 84), (0, u "loadFactor"), (0, u "F"), (5, u "threshold"), (0, u "I"), (0, .float 1061158912), (8, .class_ 103), (1, u "java/util/Map"), (0, u "size"), (2, u "table"), (0, u "[Ljava/util/HashMap$Node;"), (14, u "entrySet"), (39, .class_ 165), (1, u "java/util/HashMap$Node"), (14, .class_ 181), (0, u "java/util/HashMap$TreeNode"), (22, u "modCount"), (37, u "Ljava/util/Set;"), (0, .class_ 244), (0, u "java/util/HashMap$KeySet"), (18, .class_ 264), (0, u "java/util/HashMap$Values"), (3, .class_ 269), (0, u "java/util/HashMap$EntrySet"), (76, .class_ 348), (1, u "java/util/HashMap$UnsafeHolder"), (43, .class_ 393), (0, u "java/lang/Cloneable"), (0, .class_ 395), (0, u "java/io/Serializable"), (0, u "serialVersionUID"), (0, u "J"), (3, u "DEFAULT_INITIAL_CAPACITY"), (1, u "MAXIMUM_CAPACITY"), (0, u "DEFAULT_LOAD_FACTOR"), (0, u "TREEIFY_THRESHOLD"), (1, u "UNTREEIFY_THRESHOLD"), (1, u "MIN_TREEIFY_CAPACITY"), (186, .class_ 597), (0, u "java/util/HashMap$EntrySpliterator"), (0, .class_ 599), (0, u "java/util/HashMap$ValueSpliterator"), (0, .class_ 601), (0, u "java/util/HashMap$KeySpliterator"), (0, .class_ 603), (0, u "java/util/HashMap$HashMapSpliterator"), (0, .class_ 605), (0, u "java/util/HashMap$EntryIterator"), (0, .class_ 607), (0, u "java/util/HashMap$ValueIterator"), (0, .class_ 609), (0, u "java/util/HashMap$KeyIterator"), (0, .class_ 611), (0, u "java/util/HashMap$HashIterator")] 17

def k15c0 : Code := { maxStack := 2, maxLocals := 1, code := jdk_69_method_7_code, exceptionTable := #[], attributes := #[] }
def k15m0 : Method := { name := "<init>", desc := "()V", sig := { parameters := [], returnType := none }, accessFlags := 1, code := some k15c0 }
/-- java/util/HashMap -/
def k15 : Class := { plain "java/util/HashMap" (some 14) with
  accessFlags := 33
  interfaces := #[13, 10, 11]
  cf := some (fileOf pool15 40 #[.nestMembers #[180, 596, 598, 600, 602, 604, 606, 608, 610, 346, 268, 263, 243, 163]] #[{ accessFlags := 1, nameIndex := 47, descriptorIndex := 48, attributes := #[] }] 33 44 #[101, 392, 394] #[{ accessFlags := 26, nameIndex := 396, descriptorIndex := 397, attributes := #[] }, { accessFlags := 24, nameIndex := 401, descriptorIndex := 91, attributes := #[] }, { accessFlags := 24, nameIndex := 403, descriptorIndex := 91, attributes := #[] }, { accessFlags := 24, nameIndex := 404, descriptorIndex := 84, attributes := #[] }, { accessFlags := 24, nameIndex := 405, descriptorIndex := 91, attributes := #[] }, { accessFlags := 24, nameIndex := 407, descriptorIndex := 91, attributes := #[] }, { accessFlags := 24, nameIndex := 409, descriptorIndex := 91, attributes := #[] }, { accessFlags := 128, nameIndex := 107, descriptorIndex := 108, attributes := #[] }, { accessFlags := 128, nameIndex := 123, descriptorIndex := 242, attributes := #[] }, { accessFlags := 128, nameIndex := 104, descriptorIndex := 91, attributes := #[] }, { accessFlags := 128, nameIndex := 204, descriptorIndex := 91, attributes := #[] }, { accessFlags := 0, nameIndex := 90, descriptorIndex := 91, attributes := #[] }, { accessFlags := 16, nameIndex := 83, descriptorIndex := 84, attributes := #[] }])
  fields := #[{ name := "serialVersionUID", type := .long, accessFlags := 26, slot := 0, constantValue := 0 }, { name := "DEFAULT_INITIAL_CAPACITY", type := .int, accessFlags := 24, slot := 1, constantValue := 0 }, { name := "MAXIMUM_CAPACITY", type := .int, accessFlags := 24, slot := 2, constantValue := 0 }, { name := "DEFAULT_LOAD_FACTOR", type := .float, accessFlags := 24, slot := 3, constantValue := 0 }, { name := "TREEIFY_THRESHOLD", type := .int, accessFlags := 24, slot := 4, constantValue := 0 }, { name := "UNTREEIFY_THRESHOLD", type := .int, accessFlags := 24, slot := 5, constantValue := 0 }, { name := "MIN_TREEIFY_CAPACITY", type := .int, accessFlags := 24, slot := 6, constantValue := 0 }, { name := "table", type := (.array (.object "java/util/HashMap$Node")), accessFlags := 128, slot := 2, constantValue := 0 }, { name := "entrySet", type := (.object "java/util/Set"), accessFlags := 128, slot := 3, constantValue := 0 }, { name := "size", type := .int, accessFlags := 128, slot := 4, constantValue := 0 }, { name := "modCount", type := .int, accessFlags := 128, slot := 5, constantValue := 0 }, { name := "threshold", type := .int, accessFlags := 0, slot := 6, constantValue := 0 }, { name := "loadFactor", type := .float, accessFlags := 16, slot := 7, constantValue := 0 }]
  methods := #[k15m0]
  instanceTypes := #[(.object "java/util/Set"), (.object "java/util/Collection"), (.array (.object "java/util/HashMap$Node")), (.object "java/util/Set"), .int, .int, .int, .float]
  staticTypes := #[.long, .int, .int, .float, .int, .int, .int]
  resolved := Array.replicate 629 none
  statics := none }

/-- the primitive byte -/
def k16 : Class := { plain "byte" none with kind := .primitive 'B', accessFlags := 0x411 }
/-- [B -/
def k17 : Class := { plain "[B" (some 0) with kind := .array 16 .byte, interfaces := #[10, 11], accessFlags := 1041 }

/-- the primitive int -/
def k18 : Class := { plain "int" none with kind := .primitive 'I', accessFlags := 0x411 }
/-- [I -/
def k19 : Class := { plain "[I" (some 0) with kind := .array 18 .int, interfaces := #[10, 11], accessFlags := 1041 }

/-- the primitive long -/
def k20 : Class := { plain "long" none with kind := .primitive 'J', accessFlags := 0x411 }
/-- [J -/
def k21 : Class := { plain "[J" (some 0) with kind := .array 20 .long, interfaces := #[10, 11], accessFlags := 1041 }

/-- [Ljava/lang/Object; -/
def k22 : Class := { plain "[Ljava/lang/Object;" (some 0) with kind := .array 0 (.object "java/lang/Object"), interfaces := #[10, 11], accessFlags := 1041 }

def heap : Heap := #[{ cls := 12, slots := #[.long 0, .int 0, .ref 1, .ref 2], vm := .statics 12 },
  { cls := 22, slots := #[], vm := .none },
  { cls := 22, slots := #[], vm := .none }]
def classes : Array Class := #[k0, k1, k2, k3, k4, k5, k6, k7, k8, k9, k10, k11, k12, k13, k14, k15, k16, k17, k18, k19, k20, k21, k22]
def interned : List (Array UInt16 × Addr) := []
def slotsUsed : Nat := 4
def theMethod : MethodId := ⟨1, 1⟩
def args0 : Array Value := #[.int 3, .long 5, .long 7, .long 9, .long 1]
def aboutOver (below : List Frame) : State where
  vm := { classes := classes, interned := interned.toArray }
  heap := heap
  slotsUsed := slotsUsed
  threads := #[{ frames := .invoking theMethod args0 :: below }]
def below0 : List Frame := [.native { method := ⟨0, 0⟩, args := #[] }]
def about1 : State := aboutOver below0
def p0 : Program := .bare "" "" ""
def e0 : Env := launch0.env 0 0 0
theorem w_frames : about1.frames = Frame.invoking theMethod args0 :: below0 := rfl
set_option maxRecDepth 65536 in
theorem w_args : argsFit about1.vm theMethod args0 = true := by decide +kernel
set_option maxRecDepth 65536 in
theorem w_heap : heapFits about1 = true := by decide +kernel
set_option maxRecDepth 65536 in
theorem w_runnable : about1.curStatus? = some .runnable := by decide +kernel
set_option maxRecDepth 65536 in
theorem w_alone : about1.alone = true := by decide +kernel
set_option maxRecDepth 65536 in
theorem w_named : about1.methodNamed? x = some theMethod := by decide +kernel
set_option maxRecDepth 65536 in
theorem w_hears : about1.hears theMethod below0 = true := by decide +kernel
set_option maxRecDepth 65536 in
theorem w_ripe : about1.ripe theMethod args0 below0 = true := by decide +kernel
theorem w_running : about1.status = .running := rfl
set_option maxRecDepth 65536 in
theorem w_room : about1.hasRoom e0.platform room_1 = true :=
  launch0.hasRoom_least _ room_1 (by decide +kernel) (by decide +kernel) (by decide +kernel) (by decide +kernel) (by decide +kernel) (by decide +kernel)
theorem allAtoms_all (ts : List Jvm.Cond) (a : Array Jvm.Value) (st : Jvm.State) : (allAtoms ts).before a st = ts.all (fun c => c.before a st) := by
  induction ts with
  | nil => rfl
  | cons c t ih =>
    show (Jvm.Cond.and c (allAtoms t)).before a st = _
    rw [Jvm.Cond.before_and, ih, List.all_cons]
def words1 : List Jvm.Cond := Jvm.Cond.code x code maxLocals ret :: tables_1
/-- a 'code' word, met by the world's own term for the bytes: nothing is compared byte by byte -/
theorem code_word {y : MethodName} {bytes : ByteArray} {mx : Nat} {rt : Option FieldType} {a : Array Value} {s : State} {m : MethodId} {meth : Method} {c : Code} (h1 : s.methodNamed? y = some m) (h2 : s.vm.method? m = some meth) (h3 : meth.code = some c) (h4 : c.code = bytes)
    (h5 : (c.maxLocals == mx && c.exceptionTable.isEmpty && decide (c.maxStack ≤ mostOperands) && decide (meth.sig.returnType = rt) && !meth.locks && decide (parseMethodDescriptor y.desc = some meth.sig)) = true) : (Jvm.Cond.code y bytes mx rt).before a s = true := by
  simp only [Bool.and_eq_true, beq_iff_eq, Bool.not_eq_true', decide_eq_true_eq] at h5
  obtain ⟨⟨⟨⟨⟨g1, g2⟩, g3⟩, g4⟩, g5⟩, g6⟩ := h5
  simp [Cond.before, Cond.holds, Cond.value, h1, h2, h3, h4, g1, g2, g3, g4, g5, g6]
def isCode : Jvm.Cond → Bool
  | .code _ _ _ _ => true
  | _ => false
theorem all_split {L : List Jvm.Cond} {P : Jvm.Cond → Bool} (h1 : L.all (fun c => isCode c || P c) = true) (h2 : ∀ c ∈ L.filter isCode, P c = true) : L.all P = true := by
  refine List.all_eq_true.mpr fun c hc => ?_
  have h := List.all_eq_true.mp h1 c hc
  rcases Bool.eq_false_or_eq_true (isCode c) with hi | hi
  · exact h2 c (List.mem_filter.mpr ⟨hc, hi⟩)
  · simpa [hi] using h
set_option maxRecDepth 65536 in
theorem w_c0 : (Jvm.Cond.code x code maxLocals ret).before args0 about1 = true := code_word (m := ⟨1, 1⟩) (meth := k1m1) (c := k1c1) (by decide +kernel) rfl rfl rfl (by decide +kernel)
set_option maxRecDepth 65536 in
theorem w_c1 : (Jvm.Cond.code ({ cls := "com/example/stowage/stowage/solve/HostLoad", name := "<init>", desc := "([J[J)V" } : Jvm.MethodName) prog_29_method_1_code (3 : Nat) (Option.none : Option Jvm.ClassFile.FieldType)).before args0 about1 = true := code_word (m := ⟨2, 0⟩) (meth := k2m0) (c := k2c0) (by decide +kernel) rfl rfl rfl (by decide +kernel)
set_option maxRecDepth 65536 in
theorem w_c2 : (Jvm.Cond.code ({ cls := "java/lang/Object", name := "<init>", desc := "()V" } : Jvm.MethodName) object_method_1_code (1 : Nat) (Option.none : Option Jvm.ClassFile.FieldType)).before args0 about1 = true := code_word (m := ⟨0, 0⟩) (meth := k0m0) (c := k0c0) (by decide +kernel) rfl rfl rfl (by decide +kernel)
set_option maxRecDepth 65536 in
theorem w_c3 : (Jvm.Cond.code ({ cls := "java/util/ArrayList", name := "<init>", desc := "()V" } : Jvm.MethodName) jdk_38_method_2_code (1 : Nat) (Option.none : Option Jvm.ClassFile.FieldType)).before args0 about1 = true := code_word (m := ⟨12, 0⟩) (meth := k12m0) (c := k12c0) (by decide +kernel) rfl rfl rfl (by decide +kernel)
set_option maxRecDepth 65536 in
theorem w_c4 : (Jvm.Cond.code ({ cls := "java/util/AbstractList", name := "<init>", desc := "()V" } : Jvm.MethodName) jdk_39_method_1_code (1 : Nat) (Option.none : Option Jvm.ClassFile.FieldType)).before args0 about1 = true := code_word (m := ⟨8, 0⟩) (meth := k8m0) (c := k8c0) (by decide +kernel) rfl rfl rfl (by decide +kernel)
set_option maxRecDepth 65536 in
theorem w_c5 : (Jvm.Cond.code ({ cls := "java/util/AbstractCollection", name := "<init>", desc := "()V" } : Jvm.MethodName) jdk_22_method_1_code (1 : Nat) (Option.none : Option Jvm.ClassFile.FieldType)).before args0 about1 = true := code_word (m := ⟨5, 0⟩) (meth := k5m0) (c := k5c0) (by decide +kernel) rfl rfl rfl (by decide +kernel)
set_option maxRecDepth 65536 in
theorem w_c6 : (Jvm.Cond.code ({ cls := "java/util/HashMap", name := "<init>", desc := "()V" } : Jvm.MethodName) jdk_69_method_7_code (1 : Nat) (Option.none : Option Jvm.ClassFile.FieldType)).before args0 about1 = true := code_word (m := ⟨15, 0⟩) (meth := k15m0) (c := k15c0) (by decide +kernel) rfl rfl rfl (by decide +kernel)
set_option maxRecDepth 65536 in
theorem w_c7 : (Jvm.Cond.code ({ cls := "java/util/AbstractMap", name := "<init>", desc := "()V" } : Jvm.MethodName) jdk_71_method_1_code (1 : Nat) (Option.none : Option Jvm.ClassFile.FieldType)).before args0 about1 = true := code_word (m := ⟨14, 0⟩) (meth := k14m0) (c := k14c0) (by decide +kernel) rfl rfl rfl (by decide +kernel)
set_option maxRecDepth 65536 in
theorem w_c8 : (Jvm.Cond.code ({ cls := "com/example/stowage/stowage/solve/HostLoad", name := "freeDiskSpace", desc := "()J" } : Jvm.MethodName) prog_29_method_12_code (8 : Nat) (Option.some Jvm.ClassFile.FieldType.long)).before args0 about1 = true := code_word (m := ⟨2, 1⟩) (meth := k2m1) (c := k2c1) (by decide +kernel) rfl rfl rfl (by decide +kernel)
def codes1 : List Jvm.Cond := [Jvm.Cond.code x code maxLocals ret, Jvm.Cond.code ({ cls := "com/example/stowage/stowage/solve/HostLoad", name := "<init>", desc := "([J[J)V" } : Jvm.MethodName) prog_29_method_1_code (3 : Nat) (Option.none : Option Jvm.ClassFile.FieldType), Jvm.Cond.code ({ cls := "java/lang/Object", name := "<init>", desc := "()V" } : Jvm.MethodName) object_method_1_code (1 : Nat) (Option.none : Option Jvm.ClassFile.FieldType), Jvm.Cond.code ({ cls := "java/util/ArrayList", name := "<init>", desc := "()V" } : Jvm.MethodName) jdk_38_method_2_code (1 : Nat) (Option.none : Option Jvm.ClassFile.FieldType), Jvm.Cond.code ({ cls := "java/util/AbstractList", name := "<init>", desc := "()V" } : Jvm.MethodName) jdk_39_method_1_code (1 : Nat) (Option.none : Option Jvm.ClassFile.FieldType), Jvm.Cond.code ({ cls := "java/util/AbstractCollection", name := "<init>", desc := "()V" } : Jvm.MethodName) jdk_22_method_1_code (1 : Nat) (Option.none : Option Jvm.ClassFile.FieldType), Jvm.Cond.code ({ cls := "java/util/HashMap", name := "<init>", desc := "()V" } : Jvm.MethodName) jdk_69_method_7_code (1 : Nat) (Option.none : Option Jvm.ClassFile.FieldType), Jvm.Cond.code ({ cls := "java/util/AbstractMap", name := "<init>", desc := "()V" } : Jvm.MethodName) jdk_71_method_1_code (1 : Nat) (Option.none : Option Jvm.ClassFile.FieldType), Jvm.Cond.code ({ cls := "com/example/stowage/stowage/solve/HostLoad", name := "freeDiskSpace", desc := "()J" } : Jvm.MethodName) prog_29_method_12_code (8 : Nat) (Option.some Jvm.ClassFile.FieldType.long)]
set_option maxRecDepth 65536 in
theorem codes_eq : words1.filter isCode = codes1 := rfl
theorem w_codes : ∀ c ∈ words1.filter isCode, c.before args0 about1 = true := by
  rw [codes_eq]
  intro c hc
  simp only [codes1, List.mem_cons, List.not_mem_nil, or_false] at hc
  rcases hc with rfl | rfl | rfl | rfl | rfl | rfl | rfl | rfl | rfl
  · exact w_c0
  · exact w_c1
  · exact w_c2
  · exact w_c3
  · exact w_c4
  · exact w_c5
  · exact w_c6
  · exact w_c7
  · exact w_c8
set_option maxRecDepth 65536 in
theorem w_t1 : (words1.take 24).all (fun c => isCode c || c.before args0 about1) = true := by decide +kernel
set_option maxRecDepth 65536 in
theorem w_t2 : ((words1.drop 24).take 24).all (fun c => isCode c || c.before args0 about1) = true := by decide +kernel
set_option maxRecDepth 65536 in
theorem w_t3 : (((words1.drop 24).drop 24).take 24).all (fun c => isCode c || c.before args0 about1) = true := by decide +kernel
set_option maxRecDepth 65536 in
theorem w_t4 : (((words1.drop 24).drop 24).drop 24).all (fun c => isCode c || c.before args0 about1) = true := by decide +kernel
theorem w_tables : (allAtoms (Jvm.Cond.code x code maxLocals ret :: tables_1)).before args0 about1 = true := by
  rw [allAtoms_all]
  show words1.all (fun c => c.before args0 about1) = true
  refine all_split ?_ w_codes
  rw [← List.take_append_drop 24 words1, List.all_append, w_t1, ← List.take_append_drop 24 (words1.drop 24), List.all_append, w_t2, ← List.take_append_drop 24 ((words1.drop 24).drop 24), List.all_append, w_t3, w_t4]
  rfl
set_option maxRecDepth 65536 in
theorem w_rest : rest_1_c.before args0 about1 = true := by decide +kernel
set_option maxRecDepth 65536 in
theorem w_case : (Jvm.Cond.and given_1 narrow_1).before args0 about1 = true := by decide +kernel
theorem w_applies : (headSpec (Jvm.Cond.code x code maxLocals ret :: tables_1) room_1).applies x e0.platform about1 = true :=
  (Spec.applies_iff w_frames).mpr ⟨w_running, w_runnable, w_alone, w_named, w_hears, w_ripe, w_room, w_tables⟩
theorem atStart : AtStart classFile x code maxLocals ret World_1 tables_1 room_1 Calls_1 rest_1 Pre_1 launch0 p0 e0 about1 theMethod args0 below0 :=
  ⟨lists_1, trivial, launch0.admits_env _ _ _, launch0.least_env, fairChoices_fair.cas, fairChoices_fair.clock, w_frames, w_args, w_heap, w_applies, trivial, w_rest, w_case⟩
end start1
theorem witness_1 : WitnessClaimed_1 := ⟨start1.p0, start1.e0, start1.about1, start1.theMethod, start1.args0, start1.below0, start1.atStart⟩
end Jvm.Pilot.@@N@@
