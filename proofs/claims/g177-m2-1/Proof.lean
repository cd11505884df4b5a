import JvmDerived
import JvmDerived.Pilot.@@N@@Statement
import JvmDerived.Pilot.@@N@@Code
set_option linter.unusedVariables false
set_option linter.unusedSimpArgs false
namespace Jvm.RoadKit
open Sem ClassFile Op Lib Jvm.Stand Jvm.Free Jvm.LawKit
section New
variable {p : Program} {l : Launch} {e : Env} {R : Room} {s : State} {m : MethodId} {args : Array Value} {below : List Frame} {meth : Method} {c : Code} {T : State} {locs : List Loc} {cells slots : Nat}
theorem retI (X : Stand p l e R s m args below meth c T locs cells slots) (hx : p.tables.exec = Jvm.exec) {pc : Nat} {Ls : Array Slot} {z : Int32} {rest : List Value} (hret : meth.sig.returnType = some .int) (hd : decode c.code pc = .ok (.ireturn, 1)) {fs : List Frame}
    (hl : ∀ (f : JFrame) (acts : List Action), f.method = m → f.locked = none → f.entered = [] → (doReturn e (T.setTop f) acts (some (.int z))).1 = T.setFrames fs) : Steps p.tables e below (T.setTop (mkF m pc Ls (.int z :: rest))) (T.setFrames fs) := by
  have hm' : T.vm.method? m = some meth := X.method'
  have hn : narrow .int (.int z) = .int z := rfl
  show Steps p.tables e below (T.setTop { method := m, pc := pc, locals := Ls, stack := _ :: rest, locked := none }) _
  jvm_step X.here [X.here.top, hx, hd, hm', hret, hn]
  first | (intro acts; rw [hl _ acts rfl rfl rfl]) | rw [hl _ _ rfl rfl rfl]
  exact Steps.refl _
end New
end Jvm.RoadKit
namespace Jvm.Pilot.@@N@@
open Jvm Jvm.ClassFile Sem Op Lib Jvm.Free Jvm.Stand Jvm.LawKit Jvm.RoadKit Bundle Jvm.Pilot.@@N@@.Jvm.D
section OwnKit
/-- the rest of a body ends well: from the state U on it comes to its end, what it returns and leaves is as Q says -/
def Done (p : Program) (e : Env) (below : List Frame) (s : State) (Q : Option Value → Heap → List Loc → Prop) (C S : Nat) (U : State) : Prop :=
  ∃ s₂ o, Steps p.tables e below U s₂ ∧ s₂.status = .running ∧ Ended s₂ below o ∧ ∃ v L, o = .returned v ∧ Q v s₂.heap L ∧ FrameEnd s o s₂ L C S
variable {p : Program} {l : Launch} {e : Env} {R : Room} {s : State} {m : MethodId} {args : Array Value} {below : List Frame} {meth : Method} {c : Code} {T U U' : State} {locs : List Loc} {cells slots C S : Nat} {Q : Option Value → Heap → List Loc → Prop}
theorem Done.step (h : ∀ t, Steps p.tables e below U' t → Steps p.tables e below U t) (d : Done p e below s Q C S U') : Done p e below s Q C S U := by
  obtain ⟨s₂, o, h1, r⟩ := d
  exact ⟨s₂, o, h _ h1, r⟩
theorem Done.far (h : Steps p.tables e below U U') (d : Done p e below s Q C S U') : Done p e below s Q C S U := by
  obtain ⟨s₂, o, h1, r⟩ := d
  exact ⟨s₂, o, h.trans h1, r⟩
theorem Done.mono {Q' : Option Value → Heap → List Loc → Prop} (d : Done p e below s Q C S U) (h : ∀ v h L, Q v h L → Q' v h L) : Done p e below s Q' C S U := by
  obtain ⟨s₂, o, h1, h2, h3, v, L, h4, h5, h6⟩ := d
  exact ⟨s₂, o, h1, h2, h3, v, L, h4, h _ _ _ h5, h6⟩
theorem Done.int (X : Stand p l e R s m args below meth c T locs cells slots) (hx : p.tables.exec = Jvm.exec) (hlk : meth.locks = false) (hret : meth.sig.returnType = some .int) {pc : Nat} {Ls : Array Slot} {z : Int32} {rest : List Value} (hd : decode c.code pc = .ok (.ireturn, 1)) (hc : cells ≤ C) (hs : slots ≤ S)
    (hq : Q (some (.int z)) T.heap locs) : Done p e below s Q C S (T.setTop (mkF m pc Ls (.int z :: rest))) := by
  obtain ⟨fs, hr, hrun, hended, hW, hsame⟩ := X.leave (v := some (.int z)) (fun h => by rw [hret] at h; cases h)
  exact ⟨_, _, retI X hx hret hd hr, hrun, hended, _, _, rfl, hq, ⟨_, rfl⟩, hW, hsame.mono hc hs⟩
theorem Done.narr (X : Stand p l e R s m args below meth c T locs cells slots) (hx : p.tables.exec = Jvm.exec) (hlk : meth.locks = false) {t : FieldType} (hret : meth.sig.returnType = some t) (ht : t = .boolean ∨ t = .byte ∨ t = .char ∨ t = .short) {pc : Nat} {Ls : Array Slot} {z : Int32} {rest : List Value} (hd : decode c.code pc = .ok (.ireturn, 1)) (hc : cells ≤ C) (hs : slots ≤ S)
    (hq : Q (some (.int (nar t z))) T.heap locs) : Done p e below s Q C S (T.setTop (mkF m pc Ls (.int z :: rest))) := by
  obtain ⟨fs, hr, hrun, hended, hW, hsame⟩ := X.leave (v := some (.int (nar t z))) (fun h => by rw [hret] at h; cases h)
  exact ⟨_, _, retN X hx hret ht hd hr, hrun, hended, _, _, rfl, hq, ⟨_, rfl⟩, hW, hsame.mono hc hs⟩
theorem Done.long (X : Stand p l e R s m args below meth c T locs cells slots) (hx : p.tables.exec = Jvm.exec) (hlk : meth.locks = false) (hret : meth.sig.returnType = some .long) {pc : Nat} {Ls : Array Slot} {z : Int64} {rest : List Value} (hd : decode c.code pc = .ok (.lreturn, 1)) (hc : cells ≤ C) (hs : slots ≤ S)
    (hq : Q (some (.long z)) T.heap locs) : Done p e below s Q C S (T.setTop (mkF m pc Ls (.long z :: rest))) := by
  obtain ⟨fs, hr, hrun, hended, hW, hsame⟩ := X.leave (v := some (.long z)) (fun h => by rw [hret] at h; cases h)
  exact ⟨_, _, retOut X hx hret rfl (Or.inr (Or.inl ⟨rfl, rfl, z, rfl⟩)) hd hr, hrun, hended, _, _, rfl, hq, ⟨_, rfl⟩, hW, hsame.mono hc hs⟩
theorem Done.ref (X : Stand p l e R s m args below meth c T locs cells slots) (hx : p.tables.exec = Jvm.exec) (hlk : meth.locks = false) {t : FieldType} (hret : meth.sig.returnType = some t) (ht : t.isReference = true) {pc : Nat} {Ls : Array Slot} {w : Value} {rest : List Value} (hw : w.isRef = true) (hn : narrow t w = w) (hd : decode c.code pc = .ok (.areturn, 1)) (hc : cells ≤ C) (hs : slots ≤ S)
    (hq : Q (some w) T.heap locs) : Done p e below s Q C S (T.setTop (mkF m pc Ls (w :: rest))) := by
  obtain ⟨fs, hr, hrun, hended, hW, hsame⟩ := X.leave (v := some w) (fun h => by rw [hret] at h; cases h)
  exact ⟨_, _, retOut X hx hret hn (Or.inr (Or.inr (Or.inr (Or.inr ⟨rfl, ht, hw⟩)))) hd hr, hrun, hended, _, _, rfl, hq, ⟨_, rfl⟩, hW, hsame.mono hc hs⟩
theorem Done.void (X : Stand p l e R s m args below meth c T locs cells slots) (hx : p.tables.exec = Jvm.exec) (hlk : meth.locks = false) (hret : meth.sig.returnType = none) {pc : Nat} {Ls : Array Slot} (hd : decode c.code pc = .ok (.return_, 1)) (hc : cells ≤ C) (hs : slots ≤ S)
    (hq : Q none T.heap locs) : Done p e below s Q C S (T.setTop (mkF m pc Ls [])) := by
  obtain ⟨fs, hr, hrun, hended, hW, hsame⟩ := X.leave (v := none) (fun _ => rfl)
  exact ⟨_, _, X.returnOut hx hret hd hr, hrun, hended, _, _, rfl, hq, ⟨_, rfl⟩, hW, hsame.mono hc hs⟩
variable {Z : State} {h h' h0 : Heap} {a b : Addr} {ty : FieldType} {vs : List Value} {sl : Nat} {v x : Value} {ws : List Addr} {j : Int32} {g : JFrame} {rest : List Value}
/-- an array whose slots are just the list vs -/
def Ax (Z : State) (h : Heap) (a : Addr) (ty : FieldType) (vs : List Value) : Prop := ∃ c : Cell, Arr Z h a c ty ∧ c.slots = vs.toArray
theorem Ax.lt (F : Ax Z h a ty vs) : a < h.size := by obtain ⟨c, A, -⟩ := F; exact A.lt
theorem Ax.ext (F : Ax Z h a ty vs) (E : Ext h h') : Ax Z h' a ty vs := by obtain ⟨c, A, r⟩ := F; exact ⟨c, A.ext E, r⟩
theorem Ax.other (F : Ax Z h b ty vs) (W : Wr h h' a sl v) (q : b ≠ a) : Ax Z h' b ty vs := by obtain ⟨c, A, r⟩ := F; exact ⟨c, A.other W q, r⟩
theorem Ax.keep (F : Ax Z h a ty vs) (K : Keep h h' ws) (q : a ∉ ws) : Ax Z h' a ty vs := by obtain ⟨c, A, r⟩ := F; exact ⟨c, ⟨K.2.1 a c A.1 q, A.2⟩, r⟩
theorem own_stakeep {C n d : String} (F : Sta Z h C n d v) (K : Keep h h' ws) (q : ∀ y ∈ ws, ∃ cell : Cell, h[y]? = some cell ∧ cell.vm.isStatics = false) : Sta Z h' C n d v := by
  obtain ⟨cf, i, k, f, st, cell, h1, h2, h3, h4, h5, h6, h7⟩ := F
  refine ⟨cf, i, k, f, st, cell, h1, h2, h3, h4, K.2.1 st cell h5 (fun z => ?_), h6, h7⟩
  obtain ⟨c', g1, g2⟩ := q st z
  cases h5.symm.trans g1; rw [g2] at h6; cases h6
theorem own_unst {C : String} (F : Exa Z h a C) : ∃ cell : Cell, h[a]? = some cell ∧ cell.vm.isStatics = false := by
  obtain ⟨cell, k, h1, -, -, h4, -⟩ := F; exact ⟨cell, h1, h4⟩
theorem fld_long {t : Term} {D n d : String} {k : Int64} {y : Addr} {av : Array Value} (hh : (Jvm.Cond.eq (Term.field t D n d) (Term.long k)).value av Z none Z [] = some true) (ht : t.eval av Z none [] Z = some (.ref y)) : Fld Z Z.heap y D n d (.long k) := by
  obtain ⟨u, w, e1, e2, k1, k2⟩ := cmp_v (Or.inl hh)
  have e3 : (Term.long k).eval av Z none [] Z = some (.long k) := rfl
  rw [e3] at e2; cases e2
  obtain ⟨z, rfl⟩ := k2
  have q := gotT (eq_L e1 e3) hh
  subst q
  rw [fld_at ht] at e1
  exact Fld.start e1
theorem fld_int {t : Term} {D n d : String} {k : Int32} {y : Addr} {av : Array Value} (hh : (Jvm.Cond.eq (Term.field t D n d) (Term.int k)).value av Z none Z [] = some true) (ht : t.eval av Z none [] Z = some (.ref y)) : Fld Z Z.heap y D n d (.int k) := by
  obtain ⟨u, w, e1, e2, k1, k2⟩ := cmp_v (Or.inl hh)
  have e3 : (Term.int k).eval av Z none [] Z = some (.int k) := rfl
  rw [e3] at e2; cases e2
  obtain ⟨z, rfl⟩ := k2
  have q : z = k := by simpa [Jvm.Cond.value, e1, e3] using hh
  subst q
  rw [fld_at ht] at e1
  exact Fld.start e1
theorem Ax.set (F : Ax Z h a ty vs) (W : Wr h h' a sl v) : Ax Z h' a ty (vs.set sl v) := by
  obtain ⟨c, A, r⟩ := F
  exact ⟨_, A.same W, by rw [show (c.setSlot sl v).slots = c.slots.setIfInBounds sl v from rfl, r, List.setIfInBounds_toArray]⟩
theorem Ax.new {k : ClassId} {n : Int32} {i : Nat} (A : Arr Z h a (newA k ty n) ty) (hi : n.toNatClampNeg = i) : Ax Z h a ty (List.replicate i (defaultValue ty)) :=
  ⟨_, A, by rw [show (newA k ty n).slots = Array.replicate n.toNatClampNeg (defaultValue ty) from rfl, hi, List.toArray_replicate]⟩
theorem Ax.size {c : Cell} (r : c.slots = vs.toArray) : c.slots.size = vs.length := by rw [r, List.size_toArray]
theorem Ax.inb {c : Cell} (r : c.slots = vs.toArray) (hj : ¬ j < 0) (hl : j.toNatClampNeg < vs.length) : ¬ (j < 0 ∨ c.slots.size ≤ j.toNatClampNeg) := fun q => q.elim hj fun u => by
  rw [Ax.size r] at u; exact absurd hl (Nat.not_lt.mpr u)
theorem Ax.get {c : Cell} (r : c.slots = vs.toArray) (hat : vs[j.toNatClampNeg]? = some x) : c.slots[j.toNatClampNeg]? = some x := by rw [r, List.getElem?_toArray]; exact hat
theorem Ax.lens (hat : vs[j.toNatClampNeg]? = some x) : j.toNatClampNeg < vs.length := (List.getElem?_eq_some_iff.mp hat).1
theorem ldI (X : Stand p l e R s m args below meth c T locs cells slots) (hx : p.tables.exec = Jvm.exec) (hZ : Z.Warmed39 s.vm) (eT : T.heap = h) (F : Ax Z h a .int vs) (hj : ¬ j < 0) (hat : vs[j.toNatClampNeg]? = some x) (hg : g.method = m) (hs : g.stack = .int j :: .ref a :: rest) (hd : decode c.code g.pc = .ok (.iaload, 1)) :
    ∀ target, Steps p.tables e below (T.setTop { g with pc := g.pc + 1, stack := x :: rest }) target → Steps p.tables e below (T.setTop g) target := by
  obtain ⟨cl, A, r⟩ := F
  exact X.iaload hx (by rw [eT]; exact A.1) (State.isArrayOf_alike hZ.alike A.2.1) A.2.2 (Ax.inb r hj (Ax.lens hat)) (Ax.get r hat) hg hs hd
theorem ldJ (X : Stand p l e R s m args below meth c T locs cells slots) (hx : p.tables.exec = Jvm.exec) (hZ : Z.Warmed39 s.vm) (eT : T.heap = h) (F : Ax Z h a .long vs) (hj : ¬ j < 0) (hat : vs[j.toNatClampNeg]? = some x) (hg : g.method = m) (hs : g.stack = .int j :: .ref a :: rest) (hd : decode c.code g.pc = .ok (.laload, 1)) :
    ∀ target, Steps p.tables e below (T.setTop { g with pc := g.pc + 1, stack := x :: rest }) target → Steps p.tables e below (T.setTop g) target := by
  obtain ⟨cl, A, r⟩ := F
  exact X.laload hx (by rw [eT]; exact A.1) (State.isArrayOf_alike hZ.alike A.2.1) A.2.2 (Ax.inb r hj (Ax.lens hat)) (Ax.get r hat) hg hs hd
theorem ldB (X : Stand p l e R s m args below meth c T locs cells slots) (hx : p.tables.exec = Jvm.exec) (hZ : Z.Warmed39 s.vm) (eT : T.heap = h) (F : Ax Z h a .byte vs) (hj : ¬ j < 0) (hat : vs[j.toNatClampNeg]? = some x) (hg : g.method = m) (hs : g.stack = .int j :: .ref a :: rest) (hd : decode c.code g.pc = .ok (.baload, 1)) :
    ∀ target, Steps p.tables e below (T.setTop { g with pc := g.pc + 1, stack := x :: rest }) target → Steps p.tables e below (T.setTop g) target := by
  obtain ⟨cl, A, r⟩ := F
  exact X.baloadBytes hx (by rw [eT]; exact A.1) (State.isArrayOf_alike hZ.alike A.2.1) A.2.2 (Ax.inb r hj (Ax.lens hat)) (Ax.get r hat) hg hs hd
theorem ldZ (X : Stand p l e R s m args below meth c T locs cells slots) (hx : p.tables.exec = Jvm.exec) (hZ : Z.Warmed39 s.vm) (eT : T.heap = h) (F : Ax Z h a .boolean vs) (hj : ¬ j < 0) (hat : vs[j.toNatClampNeg]? = some x) (hg : g.method = m) (hs : g.stack = .int j :: .ref a :: rest) (hd : decode c.code g.pc = .ok (.baload, 1)) :
    ∀ target, Steps p.tables e below (T.setTop { g with pc := g.pc + 1, stack := x :: rest }) target → Steps p.tables e below (T.setTop g) target := by
  obtain ⟨cl, A, r⟩ := F
  exact X.baloadBooleans hx (by rw [eT]; exact A.1) (State.isArrayOf_alike hZ.alike A.2.1) A.2.2 (Ax.inb r hj (Ax.lens hat)) (Ax.get r hat) hg hs hd
theorem lenA (X : Stand p l e R s m args below meth c T locs cells slots) (hx : p.tables.exec = Jvm.exec) (hZ : Z.Warmed39 s.vm) (eT : T.heap = h) (F : Ax Z h a ty vs) {n : Int32} (hn : vs.length.toInt32 = n) (hg : g.method = m) (hs : g.stack = .ref a :: rest) (hd : decode c.code g.pc = .ok (.arraylength, 1)) :
    ∀ target, Steps p.tables e below (T.setTop { g with pc := g.pc + 1, stack := .int n :: rest }) target → Steps p.tables e below (T.setTop g) target := by
  obtain ⟨cl, A, r⟩ := F
  intro target k
  refine X.arraylength hx (by rw [eT]; exact A.1) (State.isArrayOf_alike hZ.alike A.2.1) hg hs hd target ?_
  rw [Ax.size r, hn]; exact k
theorem stoI (X : Stand p l e R s m args below meth c T locs cells slots) (hx : p.tables.exec = Jvm.exec) (hZ : Z.Warmed39 s.vm) (eT : T.heap = h) (F : Ax Z h a .int vs) {y : Int32} (hj : ¬ j < 0) {i : Nat} (hi : j.toNatClampNeg = i) (hl : i < vs.length) (hg : g.method = m) (hs : g.stack = .int y :: .int j :: .ref a :: rest) (hd : decode c.code g.pc = .ok (.iastore, 1)) :
    ∃ T' h', Stand p l e R s m args below meth c T' (locs ++ [⟨a, j.toNatClampNeg⟩]) cells slots ∧ T'.heap = h' ∧ Wr h h' a j.toNatClampNeg (.int y) ∧ Ax Z h' a .int (vs.set i (.int y)) ∧ ∀ target, Steps p.tables e below (T'.setTop { g with pc := g.pc + 1, stack := rest }) target → Steps p.tables e below (T.setTop g) target := by
  obtain ⟨cl, A, r⟩ := F
  obtain ⟨T', h', X', e', W, st⟩ := stI X hx hZ eT A (Ax.inb r hj (by rw [hi]; exact hl)) hg hs hd
  exact ⟨T', h', X', e', W, hi ▸ Ax.set ⟨cl, A, r⟩ W, st⟩
theorem stoJ (X : Stand p l e R s m args below meth c T locs cells slots) (hx : p.tables.exec = Jvm.exec) (hZ : Z.Warmed39 s.vm) (eT : T.heap = h) (F : Ax Z h a .long vs) {y : Int64} (hj : ¬ j < 0) {i : Nat} (hi : j.toNatClampNeg = i) (hl : i < vs.length) (hg : g.method = m) (hs : g.stack = .long y :: .int j :: .ref a :: rest) (hd : decode c.code g.pc = .ok (.lastore, 1)) :
    ∃ T' h', Stand p l e R s m args below meth c T' (locs ++ [⟨a, j.toNatClampNeg⟩]) cells slots ∧ T'.heap = h' ∧ Wr h h' a j.toNatClampNeg (.long y) ∧ Ax Z h' a .long (vs.set i (.long y)) ∧ ∀ target, Steps p.tables e below (T'.setTop { g with pc := g.pc + 1, stack := rest }) target → Steps p.tables e below (T.setTop g) target := by
  obtain ⟨cl, A, r⟩ := F
  obtain ⟨T', h', X', e', W, st⟩ := stJ X hx hZ eT A (Ax.inb r hj (by rw [hi]; exact hl)) hg hs hd
  exact ⟨T', h', X', e', W, hi ▸ Ax.set ⟨cl, A, r⟩ W, st⟩
theorem stoB (X : Stand p l e R s m args below meth c T locs cells slots) (hx : p.tables.exec = Jvm.exec) (hZ : Z.Warmed39 s.vm) (eT : T.heap = h) (F : Ax Z h a .byte vs) {y : Int32} (hj : ¬ j < 0) {i : Nat} (hi : j.toNatClampNeg = i) (hl : i < vs.length) (hg : g.method = m) (hs : g.stack = .int y :: .int j :: .ref a :: rest) (hd : decode c.code g.pc = .ok (.bastore, 1)) :
    ∃ T' h', Stand p l e R s m args below meth c T' (locs ++ [⟨a, j.toNatClampNeg⟩]) cells slots ∧ T'.heap = h' ∧ Wr h h' a j.toNatClampNeg (.int (nar .byte y)) ∧ Ax Z h' a .byte (vs.set i (.int (nar .byte y))) ∧ ∀ target, Steps p.tables e below (T'.setTop { g with pc := g.pc + 1, stack := rest }) target → Steps p.tables e below (T.setTop g) target := by
  obtain ⟨cl, A, r⟩ := F
  obtain ⟨T', h', X', e', W, st⟩ := stB X hx hZ eT A (Ax.inb r hj (by rw [hi]; exact hl)) hg hs hd
  exact ⟨T', h', X', e', W, hi ▸ Ax.set ⟨cl, A, r⟩ W, st⟩
theorem stoZ (X : Stand p l e R s m args below meth c T locs cells slots) (hx : p.tables.exec = Jvm.exec) (hZ : Z.Warmed39 s.vm) (eT : T.heap = h) (F : Ax Z h a .boolean vs) {y : Int32} (hj : ¬ j < 0) {i : Nat} (hi : j.toNatClampNeg = i) (hl : i < vs.length) (hg : g.method = m) (hs : g.stack = .int y :: .int j :: .ref a :: rest) (hd : decode c.code g.pc = .ok (.bastore, 1)) :
    ∃ T' h', Stand p l e R s m args below meth c T' (locs ++ [⟨a, j.toNatClampNeg⟩]) cells slots ∧ T'.heap = h' ∧ Wr h h' a j.toNatClampNeg (.int (nar .boolean y)) ∧ Ax Z h' a .boolean (vs.set i (.int (nar .boolean y))) ∧ ∀ target, Steps p.tables e below (T'.setTop { g with pc := g.pc + 1, stack := rest }) target → Steps p.tables e below (T.setTop g) target := by
  obtain ⟨cl, A, r⟩ := F
  obtain ⟨T', h', X', e', W, st⟩ := stZ X hx hZ eT A (Ax.inb r hj (by rw [hi]; exact hl)) hg hs hd
  exact ⟨T', h', X', e', W, hi ▸ Ax.set ⟨cl, A, r⟩ W, st⟩
theorem cloX (X : Stand p l e R s m args below meth c T locs cells slots) (hx : p.tables.exec = Jvm.exec) (hZ : Z.Warmed39 s.vm) {a0 : Array Value} {own ad : String} {index : Nat} (hown : s.vm.findClass own = some m.cls)
    (w1 : (Cond.methodLink own index ⟨ad, "clone", "()Ljava/lang/Object;"⟩).before a0 Z = true) (w2 : (Cond.sameMethod ad "java/lang/Object" "clone" "()Ljava/lang/Object;").before a0 Z = true) (w3 : (Cond.native ⟨"java/lang/Object", "clone", "()Ljava/lang/Object;"⟩).before a0 Z = true)
    (w4 : (Cond.instanceMethod ⟨"java/lang/Object", "clone", "()Ljava/lang/Object;"⟩).before a0 Z = true) (w5 : (Cond.selects ad ⟨ad, "clone", "()Ljava/lang/Object;"⟩ ⟨"java/lang/Object", "clone", "()Ljava/lang/Object;"⟩).before a0 Z = true) (w6 : (Cond.castable ad "java/lang/Cloneable").before a0 Z = true)
    (eT : T.heap = h) (F : Ax Z h a ty vs) (E : Exa Z h a ad) (G : ∀ v ∈ vs, fits ty v = true) (hg : g.method = m) (hsize : g.locals.size = c.maxLocals) (hs : g.stack = .ref a :: rest) (hd : decode c.code g.pc = .ok (.invokevirtual index, 3))
    (hf : 1 ≤ R.frames) {W cap : Nat} (hW : 2 * g.monitorRoom + (rest.map fun v => v.category).sum ≤ W) (hl : W + 14 ≤ R.locals) (hcap : vs.length ≤ cap) (hc : cells + 1 ≤ R.cells) (hsl : slots + cap ≤ R.slots) :
    ∃ T' h', Stand p l e R s m args below meth c T' locs (cells + 1) (slots + cap) ∧ T'.heap = h' ∧ Ext h h' ∧ Ax Z h' h.size ty vs ∧ Exa Z h' h.size ad ∧
      ∀ target, Steps p.tables e below (T'.setTop { g with pc := g.pc + 3, stack := .ref h.size :: rest }) target → Steps p.tables e below (T.setTop g) target := by
  obtain ⟨cl, A, r⟩ := F
  have FC : FitC Z cl := fitC_of A fun i hi v hv => by
    rw [r, List.getElem?_toArray] at hv
    exact G v (List.mem_of_getElem? hv)
  obtain ⟨T', h', X', e', ex, A', E', st⟩ := cloneA X hx hZ hown w1 w2 w3 w4 w5 w6 eT A E FC hg hsize hs hd hf hW hl (by rw [Ax.size r]; exact hcap) hc hsl
  exact ⟨T', h', X', e', ex, ⟨cloneOf cl, A', r⟩, E', st⟩
end OwnKit
theorem pd_0 : parseMethodDescriptor "(C)Z" = some ⟨[.char], some .boolean⟩ := by decide +kernel
theorem pd_1 : parseMethodDescriptor "(C)[B" = some ⟨[.char], some (.array .byte)⟩ := by decide +kernel
theorem pd_2 : parseMethodDescriptor "([BB)V" = some ⟨[(.array .byte), .byte], none⟩ := by decide +kernel
theorem pd_3 : parseMethodDescriptor "(JJ)J" = some ⟨[.long, .long], some .long⟩ := by decide +kernel
theorem pd_4 : parseMethodDescriptor "(C)Ljava/lang/String;" = some ⟨[.char], some (.object "java/lang/String")⟩ := by decide +kernel
theorem pd_5 : parseMethodDescriptor "(JJLjava/lang/String;)J" = some ⟨[.long, .long, (.object "java/lang/String")], some .long⟩ := by decide +kernel
theorem d1_0 : decode jdk_29_method_66_code 0 = .ok (.lload_n 0, 1) := by decide +kernel
theorem d1_1 : decode jdk_29_method_66_code 1 = .ok (.lload_n 2, 1) := by decide +kernel
theorem d1_2 : decode jdk_29_method_66_code 2 = .ok (.lcmp, 1) := by decide +kernel
theorem d1_3 : decode jdk_29_method_66_code 3 = .ok (.ifCond .lt 7, 3) := by decide +kernel
theorem d1_6 : decode jdk_29_method_66_code 6 = .ok (.lload_n 0, 1) := by decide +kernel
theorem d1_7 : decode jdk_29_method_66_code 7 = .ok (.goto 4, 3) := by decide +kernel
theorem d1_10 : decode jdk_29_method_66_code 10 = .ok (.lload_n 2, 1) := by decide +kernel
theorem d1_11 : decode jdk_29_method_66_code 11 = .ok (.lreturn, 1) := by decide +kernel
def F1 (q1 : Int64) (q2 : Int64) : Int64 := (if q1 < q2 then q2
  else q1)
theorem ef_1 (m : MethodId) (q1 : Int64) (q2 : Int64) : entryFrame m #[(.long q1), (.long q2)] 4 = mkF m 0 #[.val (.long q1), .second, .val (.long q2), .second] [] := by first | (simp [entryFrame, mkF, argsToLocals, Value.category]; done) | rfl
def Qrm1 (Z : State) (q1 : Int64) (q2 : Int64) (h0 : Heap) (n0 : Nat) : Option Value → Heap → List Loc → Prop := fun v h L => v = some (.long (F1 q1 q2)) ∧ Fr n0 L ∧ h = h0
set_option maxRecDepth 65536 in
set_option maxHeartbeats 40000000 in
theorem rm1 (l : Launch) (Z : State) (a0 : Array Value) (hw : ∀ d ∈ tables_1, d.before a0 Z = true) (ws : List Jvm.Cond) (q1 : Int64) (q2 : Int64) (h0 : Heap) (n0 : Nat) (Z0 : n0 ≤ h0.size) :
    MetFree l (⟨"java/lang/Math", "max", "(JJ)J"⟩ : MethodName) (head1 (Jvm.Cond.code (⟨"java/lang/Math", "max", "(JJ)J"⟩ : MethodName) jdk_29_method_66_code 4 (some .long) :: ws) ({ frames := 0, cells := 0, slots := 0, locals := 0 } : Room)) (fun a U => a = #[(.long q1), (.long q2)] ∧ Z.Warmed39 U.vm ∧ U.heap = h0) (fun _ _ _ _ _ => True) (fun _ U o U' => ∃ v L, o = .returned v ∧ Qrm1 Z q1 q2 h0 n0 v U'.heap L ∧ FrameEnd U o U' L ({ frames := 0, cells := 0, slots := 0, locals := 0 } : Room).cells ({ frames := 0, cells := 0, slots := 0, locals := 0 } : Room).slots) := by
  refine MetFree.of_bodySF (Jvm.Free.JP.mathPlain rfl (by decide +kernel)) hisR ?_
  intro p e s m args below meth c s₁ Bd hml0 hP hK
  obtain ⟨rfl, hZ, hh⟩ := hP
  have hx := Bd.exec
  have hby := Bd.bytes
  have hml : c.maxLocals = 4 := hml0
  have hown : s.vm.findClass "java/lang/Math" = some m.cls := findClass_of_methodNamed Bd.named
  have hnm := (name_of_methodNamed Bd.named Bd.method).1
  have hlk : meth.locks = false := BodyLoose.notSynchronized Bd
  have hret := Bd.returns
  have X0 : Stand p l e ({ frames := 0, cells := 0, slots := 0, locals := 0 } : Room) s m #[(.long q1), (.long q2)] below meth c s₁ [] 0 0 := Stand.of_body Bd
  have e0 : s₁.heap = h0 := by rw [← hh, Bd.state]; rfl
  have N0 := Fr.nil n0
  show Done p e below s (Qrm1 Z q1 q2 h0 n0) ({ frames := 0, cells := 0, slots := 0, locals := 0 } : Room).cells ({ frames := 0, cells := 0, slots := 0, locals := 0 } : Room).slots (s₁.setTop (entryFrame m #[(.long q1), (.long q2)] 4))
  refine Done.step (fun t k => castTop (ef_1 m q1 q2) k) ?_
  show Done p e below s _ _ _ (s₁.setTop (mkF m 0 #[.val (.long q1), .second, .val (.long q2), .second] []))
  refine Done.step (fun t k => XS.lloadN X0.here hx rfl (hb hby d1_0) rfl k) ?_
  show Done p e below s _ _ _ (s₁.setTop (mkF m 1 #[.val (.long q1), .second, .val (.long q2), .second] [(.long q1)]))
  refine Done.step (fun t k => XS.lloadN X0.here hx rfl (hb hby d1_1) rfl k) ?_
  show Done p e below s _ _ _ (s₁.setTop (mkF m 2 #[.val (.long q1), .second, .val (.long q2), .second] [(.long q2), (.long q1)]))
  refine Done.step (fun t k => XS.lcmp X0.here hx rfl (hb hby d1_2) rfl k) ?_
  show Done p e below s _ _ _ (s₁.setTop (mkF m 3 #[.val (.long q1), .second, .val (.long q2), .second] [(.int (lcmpW q1 q2))]))
  by_cases c1 : q1 < q2
  · refine Done.step (fun t k => XS.ifYes X0.here hx rfl (pc0 := 3) (pc' := 10) rfl (hb hby d1_3) rfl ((if0 _ _).trans (tlt ((lw_lt _ _).mpr c1)).1) (by decide) (by decide) k) ?_
    show Done p e below s _ _ _ (s₁.setTop (mkF m 10 #[.val (.long q1), .second, .val (.long q2), .second] []))
    refine Done.step (fun t k => XS.lloadN X0.here hx rfl (hb hby d1_10) rfl k) ?_
    show Done p e below s _ _ _ (s₁.setTop (mkF m 11 #[.val (.long q1), .second, .val (.long q2), .second] [(.long q2)]))
    exact Done.long X0 hx hlk hret (hb hby d1_11) (by decide) (by decide) ⟨by rw [show F1 q1 q2 = q2 from by unfold F1; rw [if_pos c1]] <;> rfl, N0, e0⟩
  · refine Done.step (fun t k => XS.ifNo X0.here hx rfl (hb hby d1_3) rfl ((if0 _ _).trans (flt (fun q_ => c1 ((lw_lt _ _).mp q_))).1) k) ?_
    show Done p e below s _ _ _ (s₁.setTop (mkF m 6 #[.val (.long q1), .second, .val (.long q2), .second] []))
    refine Done.step (fun t k => XS.lloadN X0.here hx rfl (hb hby d1_6) rfl k) ?_
    show Done p e below s _ _ _ (s₁.setTop (mkF m 7 #[.val (.long q1), .second, .val (.long q2), .second] [(.long q1)]))
    refine Done.step (fun t k => XS.goto X0.here hx rfl (pc0 := 7) (pc' := 11) rfl (hb hby d1_7) (by decide) (by decide) k) ?_
    show Done p e below s _ _ _ (s₁.setTop (mkF m 11 #[.val (.long q1), .second, .val (.long q2), .second] [(.long q1)]))
    exact Done.long X0 hx hlk hret (hb hby d1_11) (by decide) (by decide) ⟨by rw [show F1 q1 q2 = q1 from by unfold F1; rw [if_neg c1]] <;> rfl, N0, e0⟩
theorem d2_0 : decode jdk_29_method_70_code 0 = .ok (.lload_n 0, 1) := by decide +kernel
theorem d2_1 : decode jdk_29_method_70_code 1 = .ok (.lload_n 2, 1) := by decide +kernel
theorem d2_2 : decode jdk_29_method_70_code 2 = .ok (.lcmp, 1) := by decide +kernel
theorem d2_3 : decode jdk_29_method_70_code 3 = .ok (.ifCond .gt 7, 3) := by decide +kernel
theorem d2_6 : decode jdk_29_method_70_code 6 = .ok (.lload_n 0, 1) := by decide +kernel
theorem d2_7 : decode jdk_29_method_70_code 7 = .ok (.goto 4, 3) := by decide +kernel
theorem d2_10 : decode jdk_29_method_70_code 10 = .ok (.lload_n 2, 1) := by decide +kernel
theorem d2_11 : decode jdk_29_method_70_code 11 = .ok (.lreturn, 1) := by decide +kernel
def F2 (q1 : Int64) (q2 : Int64) : Int64 := (if q2 < q1 then q2
  else q1)
theorem ef_2 (m : MethodId) (q1 : Int64) (q2 : Int64) : entryFrame m #[(.long q1), (.long q2)] 4 = mkF m 0 #[.val (.long q1), .second, .val (.long q2), .second] [] := by first | (simp [entryFrame, mkF, argsToLocals, Value.category]; done) | rfl
def Qrm2 (Z : State) (q1 : Int64) (q2 : Int64) (h0 : Heap) (n0 : Nat) : Option Value → Heap → List Loc → Prop := fun v h L => v = some (.long (F2 q1 q2)) ∧ Fr n0 L ∧ h = h0
set_option maxRecDepth 65536 in
set_option maxHeartbeats 40000000 in
theorem rm2 (l : Launch) (Z : State) (a0 : Array Value) (hw : ∀ d ∈ tables_1, d.before a0 Z = true) (ws : List Jvm.Cond) (q1 : Int64) (q2 : Int64) (h0 : Heap) (n0 : Nat) (Z0 : n0 ≤ h0.size) :
    MetFree l (⟨"java/lang/Math", "min", "(JJ)J"⟩ : MethodName) (head1 (Jvm.Cond.code (⟨"java/lang/Math", "min", "(JJ)J"⟩ : MethodName) jdk_29_method_70_code 4 (some .long) :: ws) ({ frames := 0, cells := 0, slots := 0, locals := 0 } : Room)) (fun a U => a = #[(.long q1), (.long q2)] ∧ Z.Warmed39 U.vm ∧ U.heap = h0) (fun _ _ _ _ _ => True) (fun _ U o U' => ∃ v L, o = .returned v ∧ Qrm2 Z q1 q2 h0 n0 v U'.heap L ∧ FrameEnd U o U' L ({ frames := 0, cells := 0, slots := 0, locals := 0 } : Room).cells ({ frames := 0, cells := 0, slots := 0, locals := 0 } : Room).slots) := by
  refine MetFree.of_bodySF (Jvm.Free.JP.mathPlain rfl (by decide +kernel)) hisR ?_
  intro p e s m args below meth c s₁ Bd hml0 hP hK
  obtain ⟨rfl, hZ, hh⟩ := hP
  have hx := Bd.exec
  have hby := Bd.bytes
  have hml : c.maxLocals = 4 := hml0
  have hown : s.vm.findClass "java/lang/Math" = some m.cls := findClass_of_methodNamed Bd.named
  have hnm := (name_of_methodNamed Bd.named Bd.method).1
  have hlk : meth.locks = false := BodyLoose.notSynchronized Bd
  have hret := Bd.returns
  have X0 : Stand p l e ({ frames := 0, cells := 0, slots := 0, locals := 0 } : Room) s m #[(.long q1), (.long q2)] below meth c s₁ [] 0 0 := Stand.of_body Bd
  have e0 : s₁.heap = h0 := by rw [← hh, Bd.state]; rfl
  have N0 := Fr.nil n0
  show Done p e below s (Qrm2 Z q1 q2 h0 n0) ({ frames := 0, cells := 0, slots := 0, locals := 0 } : Room).cells ({ frames := 0, cells := 0, slots := 0, locals := 0 } : Room).slots (s₁.setTop (entryFrame m #[(.long q1), (.long q2)] 4))
  refine Done.step (fun t k => castTop (ef_2 m q1 q2) k) ?_
  show Done p e below s _ _ _ (s₁.setTop (mkF m 0 #[.val (.long q1), .second, .val (.long q2), .second] []))
  refine Done.step (fun t k => XS.lloadN X0.here hx rfl (hb hby d2_0) rfl k) ?_
  show Done p e below s _ _ _ (s₁.setTop (mkF m 1 #[.val (.long q1), .second, .val (.long q2), .second] [(.long q1)]))
  refine Done.step (fun t k => XS.lloadN X0.here hx rfl (hb hby d2_1) rfl k) ?_
  show Done p e below s _ _ _ (s₁.setTop (mkF m 2 #[.val (.long q1), .second, .val (.long q2), .second] [(.long q2), (.long q1)]))
  refine Done.step (fun t k => XS.lcmp X0.here hx rfl (hb hby d2_2) rfl k) ?_
  show Done p e below s _ _ _ (s₁.setTop (mkF m 3 #[.val (.long q1), .second, .val (.long q2), .second] [(.int (lcmpW q1 q2))]))
  by_cases c1 : q2 < q1
  · refine Done.step (fun t k => XS.ifYes X0.here hx rfl (pc0 := 3) (pc' := 10) rfl (hb hby d2_3) rfl ((if0 _ _).trans (tlt ((lw_gt _ _).mpr c1)).2.2.1) (by decide) (by decide) k) ?_
    show Done p e below s _ _ _ (s₁.setTop (mkF m 10 #[.val (.long q1), .second, .val (.long q2), .second] []))
    refine Done.step (fun t k => XS.lloadN X0.here hx rfl (hb hby d2_10) rfl k) ?_
    show Done p e below s _ _ _ (s₁.setTop (mkF m 11 #[.val (.long q1), .second, .val (.long q2), .second] [(.long q2)]))
    exact Done.long X0 hx hlk hret (hb hby d2_11) (by decide) (by decide) ⟨by rw [show F2 q1 q2 = q2 from by unfold F2; rw [if_pos c1]] <;> rfl, N0, e0⟩
  · refine Done.step (fun t k => XS.ifNo X0.here hx rfl (hb hby d2_3) rfl ((if0 _ _).trans (flt (fun q_ => c1 ((lw_gt _ _).mp q_))).2.2.1) k) ?_
    show Done p e below s _ _ _ (s₁.setTop (mkF m 6 #[.val (.long q1), .second, .val (.long q2), .second] []))
    refine Done.step (fun t k => XS.lloadN X0.here hx rfl (hb hby d2_6) rfl k) ?_
    show Done p e below s _ _ _ (s₁.setTop (mkF m 7 #[.val (.long q1), .second, .val (.long q2), .second] [(.long q1)]))
    refine Done.step (fun t k => XS.goto X0.here hx rfl (pc0 := 7) (pc' := 11) rfl (hb hby d2_7) (by decide) (by decide) k) ?_
    show Done p e below s _ _ _ (s₁.setTop (mkF m 11 #[.val (.long q1), .second, .val (.long q2), .second] [(.long q1)]))
    exact Done.long X0 hx hlk hret (hb hby d2_11) (by decide) (by decide) ⟨by rw [show F2 q1 q2 = q1 from by unfold F2; rw [if_neg c1]] <;> rfl, N0, e0⟩
theorem d4_0 : decode jdk_43_method_3_code 0 = .ok (.iload_n 0, 1) := by decide +kernel
theorem d4_1 : decode jdk_43_method_3_code 1 = .ok (.sipush 255, 3) := by decide +kernel
theorem d4_4 : decode jdk_43_method_3_code 4 = .ok (.if_icmp .gt 7, 3) := by decide +kernel
theorem d4_7 : decode jdk_43_method_3_code 7 = .ok (.iconst 1, 1) := by decide +kernel
theorem d4_8 : decode jdk_43_method_3_code 8 = .ok (.goto 4, 3) := by decide +kernel
theorem d4_11 : decode jdk_43_method_3_code 11 = .ok (.iconst 0, 1) := by decide +kernel
theorem d4_12 : decode jdk_43_method_3_code 12 = .ok (.ireturn, 1) := by decide +kernel
def F4 (p1 : Int32) : Int32 := (if (255 : Int32) < p1 then (0 : Int32)
  else (1 : Int32))
theorem pn_4 : plainName "java/lang/StringLatin1" = true := by first | (simp [plainName, overriddenIn]; done) | decide +kernel
theorem ef_4 (m : MethodId) (p1 : Int32) : entryFrame m #[(.int p1)] 1 = mkF m 0 #[.val (.int p1)] [] := by first | (simp [entryFrame, mkF, argsToLocals, Value.category]; done) | rfl
def Qrm4 (Z : State) (p1 : Int32) (h0 : Heap) (n0 : Nat) : Option Value → Heap → List Loc → Prop := fun v h L => v = some (.int (F4 p1)) ∧ Fr n0 L ∧ h = h0
set_option maxRecDepth 65536 in
set_option maxHeartbeats 40000000 in
theorem rm4 (l : Launch) (Z : State) (a0 : Array Value) (hw : ∀ d ∈ tables_1, d.before a0 Z = true) (ws : List Jvm.Cond) (p1 : Int32) (h0 : Heap) (n0 : Nat) (Z0 : n0 ≤ h0.size) :
    MetFree l (⟨"java/lang/StringLatin1", "canEncode", "(C)Z"⟩ : MethodName) (head1 (Jvm.Cond.code (⟨"java/lang/StringLatin1", "canEncode", "(C)Z"⟩ : MethodName) jdk_43_method_3_code 1 (some .boolean) :: ws) ({ frames := 0, cells := 0, slots := 0, locals := 0 } : Room)) (fun a U => a = #[(.int p1)] ∧ Z.Warmed39 U.vm ∧ U.heap = h0) (fun _ _ _ _ _ => True) (fun _ U o U' => ∃ v L, o = .returned v ∧ Qrm4 Z p1 h0 n0 v U'.heap L ∧ FrameEnd U o U' L ({ frames := 0, cells := 0, slots := 0, locals := 0 } : Room).cells ({ frames := 0, cells := 0, slots := 0, locals := 0 } : Room).slots) := by
  refine MetFree.of_bodySF (plainFor_of_name pn_4) hisR ?_
  intro p e s m args below meth c s₁ Bd hml0 hP hK
  obtain ⟨rfl, hZ, hh⟩ := hP
  have hx := Bd.exec
  have hby := Bd.bytes
  have hml : c.maxLocals = 1 := hml0
  have hown : s.vm.findClass "java/lang/StringLatin1" = some m.cls := findClass_of_methodNamed Bd.named
  have hnm := (name_of_methodNamed Bd.named Bd.method).1
  have hlk : meth.locks = false := BodyLoose.notSynchronized Bd
  have hret := Bd.returns
  have X0 : Stand p l e ({ frames := 0, cells := 0, slots := 0, locals := 0 } : Room) s m #[(.int p1)] below meth c s₁ [] 0 0 := Stand.of_body Bd
  have e0 : s₁.heap = h0 := by rw [← hh, Bd.state]; rfl
  have N0 := Fr.nil n0
  show Done p e below s (Qrm4 Z p1 h0 n0) ({ frames := 0, cells := 0, slots := 0, locals := 0 } : Room).cells ({ frames := 0, cells := 0, slots := 0, locals := 0 } : Room).slots (s₁.setTop (entryFrame m #[(.int p1)] 1))
  refine Done.step (fun t k => castTop (ef_4 m p1) k) ?_
  show Done p e below s _ _ _ (s₁.setTop (mkF m 0 #[.val (.int p1)] []))
  refine Done.step (fun t k => XS.iloadN X0.here hx rfl (hb hby d4_0) rfl k) ?_
  show Done p e below s _ _ _ (s₁.setTop (mkF m 1 #[.val (.int p1)] [(.int p1)]))
  refine Done.step (fun t k => XS.sipush X0.here hx rfl (hb hby d4_1) k) ?_
  show Done p e below s _ _ _ (s₁.setTop (mkF m 4 #[.val (.int p1)] [(.int (255 : Int32)), (.int p1)]))
  by_cases c1 : (255 : Int32) < p1
  · refine Done.step (fun t k => XS.icmpYes X0.here hx rfl (pc0 := 4) (pc' := 11) rfl (hb hby d4_4) rfl (tlt c1).2.2.1 (by decide) (by decide) k) ?_
    show Done p e below s _ _ _ (s₁.setTop (mkF m 11 #[.val (.int p1)] []))
    refine Done.step (fun t k => XS.iconst X0.here hx rfl (hb hby d4_11) k) ?_
    show Done p e below s _ _ _ (s₁.setTop (mkF m 12 #[.val (.int p1)] [(.int (0 : Int32))]))
    exact Done.narr X0 hx hlk hret (by simp) (hb hby d4_12) (by decide) (by decide) ⟨by rw [show F4 p1 = (0 : Int32) from by unfold F4; rw [if_pos c1]] <;> rfl, N0, e0⟩
  · refine Done.step (fun t k => XS.icmpNo X0.here hx rfl (hb hby d4_4) rfl (flt c1).2.2.1 k) ?_
    show Done p e below s _ _ _ (s₁.setTop (mkF m 7 #[.val (.int p1)] []))
    refine Done.step (fun t k => XS.iconst X0.here hx rfl (hb hby d4_7) k) ?_
    show Done p e below s _ _ _ (s₁.setTop (mkF m 8 #[.val (.int p1)] [(.int (1 : Int32))]))
    refine Done.step (fun t k => XS.goto X0.here hx rfl (pc0 := 8) (pc' := 12) rfl (hb hby d4_8) (by decide) (by decide) k) ?_
    show Done p e below s _ _ _ (s₁.setTop (mkF m 12 #[.val (.int p1)] [(.int (1 : Int32))]))
    exact Done.narr X0 hx hlk hret (by simp) (hb hby d4_12) (by decide) (by decide) ⟨by rw [show F4 p1 = (1 : Int32) from by unfold F4; rw [if_neg c1]] <;> rfl, N0, e0⟩
theorem d5_0 : decode jdk_43_method_46_code 0 = .ok (.iconst 1, 1) := by decide +kernel
theorem d5_1 : decode jdk_43_method_46_code 1 = .ok (.newarray .byte, 2) := by decide +kernel
theorem d5_3 : decode jdk_43_method_46_code 3 = .ok (.dup, 1) := by decide +kernel
theorem d5_4 : decode jdk_43_method_46_code 4 = .ok (.iconst 0, 1) := by decide +kernel
theorem d5_5 : decode jdk_43_method_46_code 5 = .ok (.iload_n 0, 1) := by decide +kernel
theorem d5_6 : decode jdk_43_method_46_code 6 = .ok (.i2b, 1) := by decide +kernel
theorem d5_7 : decode jdk_43_method_46_code 7 = .ok (.bastore, 1) := by decide +kernel
theorem d5_8 : decode jdk_43_method_46_code 8 = .ok (.areturn, 1) := by decide +kernel
theorem pn_5 : plainName "java/lang/StringLatin1" = true := by first | (simp [plainName, overriddenIn]; done) | decide +kernel
theorem ef_5 (m : MethodId) (p1 : Int32) : entryFrame m #[(.int p1)] 1 = mkF m 0 #[.val (.int p1)] [] := by first | (simp [entryFrame, mkF, argsToLocals, Value.category]; done) | rfl
def Qrm5 (Z : State) (p1 : Int32) (h0 : Heap) (n0 : Nat) : Option Value → Heap → List Loc → Prop := fun v h L => ∃ b : Addr, v = some (.ref b) ∧ Fr n0 L ∧ (Keep h0 h [] ∧ Exa Z h b "[B") ∧ h0.size ≤ b
set_option maxRecDepth 65536 in
set_option maxHeartbeats 40000000 in
theorem rm5 (l : Launch) (Z : State) (a0 : Array Value) (hw : ∀ d ∈ tables_1, d.before a0 Z = true) (ws : List Jvm.Cond) (p1 : Int32) (h0 : Heap) (n0 : Nat) (Z0 : n0 ≤ h0.size) :
    MetFree l (⟨"java/lang/StringLatin1", "toBytes", "(C)[B"⟩ : MethodName) (head1 (Jvm.Cond.code (⟨"java/lang/StringLatin1", "toBytes", "(C)[B"⟩ : MethodName) jdk_43_method_46_code 1 (some (.array .byte)) :: ws) ({ frames := 0, cells := 1, slots := 1, locals := 0 } : Room)) (fun a U => a = #[(.int p1)] ∧ Z.Warmed39 U.vm ∧ U.heap = h0) (fun _ _ _ _ _ => True) (fun _ U o U' => ∃ v L, o = .returned v ∧ Qrm5 Z p1 h0 n0 v U'.heap L ∧ FrameEnd U o U' L ({ frames := 0, cells := 1, slots := 1, locals := 0 } : Room).cells ({ frames := 0, cells := 1, slots := 1, locals := 0 } : Room).slots) := by
  refine MetFree.of_bodySF (plainFor_of_name pn_5) hisR ?_
  intro p e s m args below meth c s₁ Bd hml0 hP hK
  obtain ⟨rfl, hZ, hh⟩ := hP
  have hx := Bd.exec
  have hby := Bd.bytes
  have hml : c.maxLocals = 1 := hml0
  have hown : s.vm.findClass "java/lang/StringLatin1" = some m.cls := findClass_of_methodNamed Bd.named
  have hnm := (name_of_methodNamed Bd.named Bd.method).1
  have hlk : meth.locks = false := BodyLoose.notSynchronized Bd
  have hret := Bd.returns
  have X0 : Stand p l e ({ frames := 0, cells := 1, slots := 1, locals := 0 } : Room) s m #[(.int p1)] below meth c s₁ [] 0 0 := Stand.of_body Bd
  have e0 : s₁.heap = h0 := by rw [← hh, Bd.state]; rfl
  have N0 := Fr.nil n0
  show Done p e below s (Qrm5 Z p1 h0 n0) ({ frames := 0, cells := 1, slots := 1, locals := 0 } : Room).cells ({ frames := 0, cells := 1, slots := 1, locals := 0 } : Room).slots (s₁.setTop (entryFrame m #[(.int p1)] 1))
  refine Done.step (fun t k => castTop (ef_5 m p1) k) ?_
  show Done p e below s _ _ _ (s₁.setTop (mkF m 0 #[.val (.int p1)] []))
  refine Done.step (fun t k => XS.iconst X0.here hx rfl (hb hby d5_0) k) ?_
  show Done p e below s _ _ _ (s₁.setTop (mkF m 1 #[.val (.int p1)] [(.int (1 : Int32))]))
  obtain ⟨T1, h1, k1, X1, e1, E1, A1, B1, st1⟩ := newPE X0 hx hZ (hw _ (List.mem_of_getElem? (i := 21) rfl)) e0 (g := (mkF m 1 #[.val (.int p1)] [(.int (1 : Int32))])) rfl (hb hby d5_1) rfl (by decide) (cap := 1) (by decide) (by decide) (by decide) (by decide) (ad := "[B") (by decide)
  obtain ⟨b1, gq1⟩ : ∃ z, z = h0.size := ⟨_, rfl⟩
  rw [← gq1] at A1 B1 st1
  have g_b1 : n0 ≤ b1 := Nat.le_trans Z0 (Nat.le_of_eq gq1.symm)
  have sz_b1 : h0.size ≤ b1 := Nat.le_trans (Keep.refl h0 []).1 (Nat.le_of_eq gq1.symm)
  have Z1 : n0 ≤ h1.size := Nat.le_trans Z0 E1.1
  have K1 : Keep h0 h1 [] := (Keep.refl h0 []).ext E1
  have f2 : Ax Z h1 b1 .byte [(.int (0 : Int32))] := Ax.new (ty := .byte) (i := 1) A1 (by decide)
  refine Done.step st1 ?_
  show Done p e below s _ _ _ (T1.setTop (mkF m 3 #[.val (.int p1)] [(.ref b1)]))
  refine Done.step (fun t k => XS.dup X1.here hx rfl (hb hby d5_3) rfl rfl k) ?_
  show Done p e below s _ _ _ (T1.setTop (mkF m 4 #[.val (.int p1)] [(.ref b1), (.ref b1)]))
  refine Done.step (fun t k => XS.iconst X1.here hx rfl (hb hby d5_4) k) ?_
  show Done p e below s _ _ _ (T1.setTop (mkF m 5 #[.val (.int p1)] [(.int (0 : Int32)), (.ref b1), (.ref b1)]))
  refine Done.step (fun t k => XS.iloadN X1.here hx rfl (hb hby d5_5) rfl k) ?_
  show Done p e below s _ _ _ (T1.setTop (mkF m 6 #[.val (.int p1)] [(.int p1), (.int (0 : Int32)), (.ref b1), (.ref b1)]))
  refine Done.step (fun t k => XS.i2b X1.here hx rfl (hb hby d5_6) rfl k) ?_
  show Done p e below s _ _ _ (T1.setTop (mkF m 7 #[.val (.int p1)] [(.int (p1).toInt8.toInt32), (.int (0 : Int32)), (.ref b1), (.ref b1)]))
  obtain ⟨T3, h3, X3, e3, W3, A3, st3⟩ := stoB X1 hx hZ e1 f2 (j := (0 : Int32)) (by decide) (i := 0) (by decide) (by decide) (g := (mkF m 7 #[.val (.int p1)] [(.int (p1).toInt8.toInt32), (.int (0 : Int32)), (.ref b1), (.ref b1)])) rfl rfl (hb hby d5_7)
  have f4 : Exa Z h3 b1 "[B" := B1.wr W3
  have f5 : Ax Z h3 b1 .byte [(.int (nar .byte (p1).toInt8.toInt32))] := A3
  have Z3 : n0 ≤ h3.size := Nat.le_trans Z1 (Keep.of_wr W3).1
  have N3 := Fr.snoc X3 N0 g_b1
  have K3 : Keep h0 h3 [] := K1.wr W3 (Or.inr sz_b1)
  refine Done.step st3 ?_
  show Done p e below s _ _ _ (T3.setTop (mkF m 8 #[.val (.int p1)] [(.ref b1)]))
  exact Done.ref X3 hx hlk hret rfl rfl rfl (hb hby d5_8) (by decide) (by decide) ⟨b1, rfl, N3, (by rw [e3]; exact ⟨K3, f4⟩), sz_b1⟩
theorem d6_0 : decode jdk_42_method_151_code 0 = .ok (.aload_n 0, 1) := by decide +kernel
theorem d6_1 : decode jdk_42_method_151_code 1 = .ok (.invokespecial 1, 3) := by decide +kernel
theorem d6_4 : decode jdk_42_method_151_code 4 = .ok (.aload_n 0, 1) := by decide +kernel
theorem d6_5 : decode jdk_42_method_151_code 5 = .ok (.aload_n 1, 1) := by decide +kernel
theorem d6_6 : decode jdk_42_method_151_code 6 = .ok (.putfield 9, 3) := by decide +kernel
theorem d6_9 : decode jdk_42_method_151_code 9 = .ok (.aload_n 0, 1) := by decide +kernel
theorem d6_10 : decode jdk_42_method_151_code 10 = .ok (.iload_n 2, 1) := by decide +kernel
theorem d6_11 : decode jdk_42_method_151_code 11 = .ok (.putfield 15, 3) := by decide +kernel
theorem d6_14 : decode jdk_42_method_151_code 14 = .ok (.return_, 1) := by decide +kernel
theorem pn_6 : plainName "java/lang/String" = true := by first | (simp [plainName, overriddenIn]; done) | decide +kernel
theorem ef_6 (m : MethodId) (a1 : Addr) (a2 : Addr) (p3 : Int32) : entryFrame m #[(.ref a1), (.ref a2), (.int p3)] 3 = mkF m 0 #[.val (.ref a1), .val (.ref a2), .val (.int p3)] [] := by first | (simp [entryFrame, mkF, argsToLocals, Value.category]; done) | rfl
def Qrm6 (Z : State) (a1 : Addr) (a2 : Addr) (p3 : Int32) (h0 : Heap) (n0 : Nat) : Option Value → Heap → List Loc → Prop := fun v h L => v = none ∧ Fr n0 L ∧ Keep h0 h [a1] ∧ Exa Z h a1 "java/lang/String" ∧ Fld Z h a1 "java/lang/String" "value" "[B" (.ref a2) ∧ Fld Z h a1 "java/lang/String" "coder" "B" (.int (nar .byte p3))
set_option maxRecDepth 65536 in
set_option maxHeartbeats 40000000 in
theorem rm6 (l : Launch) (Z : State) (a0 : Array Value) (hw : ∀ d ∈ tables_1, d.before a0 Z = true) (ws : List Jvm.Cond) (a1 : Addr) (a2 : Addr) (p3 : Int32) (h0 : Heap) (n0 : Nat) (Z0 : n0 ≤ h0.size) (E1 : Exa Z h0 a1 "java/lang/String") (F_value : Fld Z h0 a1 "java/lang/String" "value" "[B" .null) (F_coder : Fld Z h0 a1 "java/lang/String" "coder" "B" (.int (0 : Int32))) (g1 : n0 ≤ a1) :
    MetFree l (⟨"java/lang/String", "<init>", "([BB)V"⟩ : MethodName) (head1 (Jvm.Cond.code (⟨"java/lang/String", "<init>", "([BB)V"⟩ : MethodName) jdk_42_method_151_code 3 none :: ws) ({ frames := 1, cells := 0, slots := 0, locals := 12 } : Room)) (fun a U => a = #[(.ref a1), (.ref a2), (.int p3)] ∧ Z.Warmed39 U.vm ∧ U.heap = h0) (fun _ _ _ _ _ => True) (fun _ U o U' => ∃ v L, o = .returned v ∧ Qrm6 Z a1 a2 p3 h0 n0 v U'.heap L ∧ FrameEnd U o U' L ({ frames := 1, cells := 0, slots := 0, locals := 12 } : Room).cells ({ frames := 1, cells := 0, slots := 0, locals := 12 } : Room).slots) := by
  refine MetFree.of_bodySF (plainFor_of_name pn_6) hisR ?_
  intro p e s m args below meth c s₁ Bd hml0 hP hK
  obtain ⟨rfl, hZ, hh⟩ := hP
  have hx := Bd.exec
  have hby := Bd.bytes
  have hml : c.maxLocals = 3 := hml0
  have hown : s.vm.findClass "java/lang/String" = some m.cls := findClass_of_methodNamed Bd.named
  have hnm := (name_of_methodNamed Bd.named Bd.method).1
  have hlk : meth.locks = false := BodyLoose.notSynchronized Bd
  have hret := Bd.returns
  have X0 : Stand p l e ({ frames := 1, cells := 0, slots := 0, locals := 12 } : Room) s m #[(.ref a1), (.ref a2), (.int p3)] below meth c s₁ [] 0 0 := Stand.of_body Bd
  have e0 : s₁.heap = h0 := by rw [← hh, Bd.state]; rfl
  have N0 := Fr.nil n0
  show Done p e below s (Qrm6 Z a1 a2 p3 h0 n0) ({ frames := 1, cells := 0, slots := 0, locals := 12 } : Room).cells ({ frames := 1, cells := 0, slots := 0, locals := 12 } : Room).slots (s₁.setTop (entryFrame m #[(.ref a1), (.ref a2), (.int p3)] 3))
  refine Done.step (fun t k => castTop (ef_6 m a1 a2 p3) k) ?_
  show Done p e below s _ _ _ (s₁.setTop (mkF m 0 #[.val (.ref a1), .val (.ref a2), .val (.int p3)] []))
  refine Done.step (fun t k => XS.aloadN X0.here hx rfl (hb hby d6_0) rfl rfl k) ?_
  show Done p e below s _ _ _ (s₁.setTop (mkF m 1 #[.val (.ref a1), .val (.ref a2), .val (.int p3)] [(.ref a1)]))
  obtain ⟨T1, X1, e1, st1⟩ := initO X0 hx hZ hown (hw _ (List.mem_of_getElem? (i := 26) rfl)) (hw _ (List.mem_of_getElem? (i := 27) rfl)) (hw _ (List.mem_of_getElem? (i := 28) rfl)) e0 (g := (mkF m 1 #[.val (.ref a1), .val (.ref a2), .val (.int p3)] [(.ref a1)])) rfl (by rw [hml]; rfl) rfl (hb hby d6_1) (by decide) (W := 0) (by show 2 * 0 + _ ≤ _; exact Nat.le_of_eq rfl) (by decide)
  refine Done.step st1 ?_
  show Done p e below s _ _ _ (T1.setTop (mkF m 4 #[.val (.ref a1), .val (.ref a2), .val (.int p3)] []))
  refine Done.step (fun t k => XS.aloadN X1.here hx rfl (hb hby d6_4) rfl rfl k) ?_
  show Done p e below s _ _ _ (T1.setTop (mkF m 5 #[.val (.ref a1), .val (.ref a2), .val (.int p3)] [(.ref a1)]))
  refine Done.step (fun t k => XS.aloadN X1.here hx rfl (hb hby d6_5) rfl rfl k) ?_
  show Done p e below s _ _ _ (T1.setTop (mkF m 6 #[.val (.ref a1), .val (.ref a2), .val (.int p3)] [(.ref a2), (.ref a1)]))
  obtain ⟨T2, h2, X2, e2, W2, st2⟩ := putF X1 hx hZ hown (host := "") (Or.inl (hw _ (List.mem_of_getElem? (i := 29) rfl))) Via.refl e1 F_value E1 (Or.inr ⟨(hw _ (List.mem_of_getElem? (i := 30) rfl)), rfl, hnm⟩) (hw _ (List.mem_of_getElem? (i := 17) rfl)) (ty := (.array .byte)) (by decide) rfl rfl (g := (mkF m 6 #[.val (.ref a1), .val (.ref a2), .val (.int p3)] [(.ref a2), (.ref a1)])) rfl rfl (hb hby d6_6)
  have f3 : Exa Z h2 a1 "java/lang/String" := E1.wr W2
  have f4 : Fld Z h2 a1 "java/lang/String" "value" "[B" (.ref a2) := F_value.same W2
  have f5 : Fld Z h2 a1 "java/lang/String" "coder" "B" (.int (0 : Int32)) := F_coder.other W2 (Or.inr (slot_ne (Or.inr (hw _ (List.mem_of_getElem? (i := 32) rfl))) (Or.inr (hw _ (List.mem_of_getElem? (i := 30) rfl))) (by decide) (t := .byte) (t' := (.array .byte)) (by decide) (by decide)))
  have Z2 : n0 ≤ h2.size := Nat.le_trans Z0 (Keep.of_wr W2).1
  have N2 := Fr.snoc X2 N0 g1
  have K2 : Keep h0 h2 [a1] := (Keep.refl h0 [a1]).wr W2 (Or.inl (by simp))
  refine Done.step st2 ?_
  show Done p e below s _ _ _ (T2.setTop (mkF m 9 #[.val (.ref a1), .val (.ref a2), .val (.int p3)] []))
  refine Done.step (fun t k => XS.aloadN X2.here hx rfl (hb hby d6_9) rfl rfl k) ?_
  show Done p e below s _ _ _ (T2.setTop (mkF m 10 #[.val (.ref a1), .val (.ref a2), .val (.int p3)] [(.ref a1)]))
  refine Done.step (fun t k => XS.iloadN X2.here hx rfl (hb hby d6_10) rfl k) ?_
  show Done p e below s _ _ _ (T2.setTop (mkF m 11 #[.val (.ref a1), .val (.ref a2), .val (.int p3)] [(.int p3), (.ref a1)]))
  obtain ⟨T6, h6, X6, e6, W6, st6⟩ := putFN X2 hx hZ hown (hw _ (List.mem_of_getElem? (i := 31) rfl)) Via.refl e2 f5 f3 (Or.inr ⟨(hw _ (List.mem_of_getElem? (i := 32) rfl)), rfl, hnm⟩) (hw _ (List.mem_of_getElem? (i := 17) rfl)) (ty := .byte) (v' := (.int (nar .byte p3))) (by decide) rfl (fits_nar_byte _) (g := (mkF m 11 #[.val (.ref a1), .val (.ref a2), .val (.int p3)] [(.int p3), (.ref a1)])) rfl rfl (hb hby d6_11)
  have f7 : Exa Z h6 a1 "java/lang/String" := f3.wr W6
  have f8 : Fld Z h6 a1 "java/lang/String" "value" "[B" (.ref a2) := f4.other W6 (Or.inr (slot_ne (Or.inr (hw _ (List.mem_of_getElem? (i := 30) rfl))) (Or.inr (hw _ (List.mem_of_getElem? (i := 32) rfl))) (by decide) (t := (.array .byte)) (t' := .byte) (by decide) (by decide)))
  have f9 : Fld Z h6 a1 "java/lang/String" "coder" "B" (.int (nar .byte p3)) := f5.same W6
  have Z6 : n0 ≤ h6.size := Nat.le_trans Z2 (Keep.of_wr W6).1
  have N6 := Fr.snoc X6 N2 g1
  have K6 : Keep h0 h6 [a1] := K2.wr W6 (Or.inl (by simp))
  refine Done.step st6 ?_
  show Done p e below s _ _ _ (T6.setTop (mkF m 14 #[.val (.ref a1), .val (.ref a2), .val (.int p3)] []))
  exact Done.void X6 hx hlk hret (hb hby d6_14) (by decide) (by decide) ⟨rfl, N6, (by rw [e6]; exact ⟨K6, f7, f8, f9⟩)⟩
theorem d3_0 : decode jdk_42_method_139_code 0 = .ok (.getstatic 38, 3) := by decide +kernel
theorem d3_3 : decode jdk_42_method_139_code 3 = .ok (.ifCond .eq 23, 3) := by decide +kernel
theorem d3_6 : decode jdk_42_method_139_code 6 = .ok (.iload_n 0, 1) := by decide +kernel
theorem d3_7 : decode jdk_42_method_139_code 7 = .ok (.invokestatic 1015, 3) := by decide +kernel
theorem d3_10 : decode jdk_42_method_139_code 10 = .ok (.ifCond .eq 16, 3) := by decide +kernel
theorem d3_13 : decode jdk_42_method_139_code 13 = .ok (.new 10, 3) := by decide +kernel
theorem d3_16 : decode jdk_42_method_139_code 16 = .ok (.dup, 1) := by decide +kernel
theorem d3_17 : decode jdk_42_method_139_code 17 = .ok (.iload_n 0, 1) := by decide +kernel
theorem d3_18 : decode jdk_42_method_139_code 18 = .ok (.invokestatic 1018, 3) := by decide +kernel
theorem d3_21 : decode jdk_42_method_139_code 21 = .ok (.iconst 0, 1) := by decide +kernel
theorem d3_22 : decode jdk_42_method_139_code 22 = .ok (.invokespecial 209, 3) := by decide +kernel
theorem d3_25 : decode jdk_42_method_139_code 25 = .ok (.areturn, 1) := by decide +kernel
theorem pn_3 : plainName "java/lang/String" = true := by first | (simp [plainName, overriddenIn]; done) | decide +kernel
theorem ef_3 (m : MethodId) (p1 : Int32) : entryFrame m #[(.int p1)] 1 = mkF m 0 #[.val (.int p1)] [] := by first | (simp [entryFrame, mkF, argsToLocals, Value.category]; done) | rfl
def Qrm3 (Z : State) (p1 : Int32) (cs : Int32) (h0 : Heap) (n0 : Nat) : Option Value → Heap → List Loc → Prop := fun v h L => ∃ b : Addr, v = some (.ref b) ∧ Fr n0 L ∧ Keep h0 h [] ∧ Exa Z h b "java/lang/String"
set_option maxRecDepth 65536 in
set_option maxHeartbeats 40000000 in
theorem rm3 (l : Launch) (Z : State) (a0 : Array Value) (hw : ∀ d ∈ tables_1, d.before a0 Z = true) (ws : List Jvm.Cond) (p1 : Int32) (cs : Int32) (h0 : Heap) (n0 : Nat) (Z0 : n0 ≤ h0.size) (Scs : Sta Z h0 "java/lang/String" "COMPACT_STRINGS" "Z" (.int cs)) (hcs : ¬ cs = (0 : Int32)) (hce : ¬ (F4 p1) = (0 : Int32)) :
    MetFree l (⟨"java/lang/String", "valueOf", "(C)Ljava/lang/String;"⟩ : MethodName) (head1 (Jvm.Cond.code (⟨"java/lang/String", "valueOf", "(C)Ljava/lang/String;"⟩ : MethodName) jdk_42_method_139_code 1 (some (.object "java/lang/String")) :: ws) ({ frames := 2, cells := 2, slots := 5, locals := 27 } : Room)) (fun a U => a = #[(.int p1)] ∧ Z.Warmed39 U.vm ∧ U.heap = h0) (fun _ _ _ _ _ => True) (fun _ U o U' => ∃ v L, o = .returned v ∧ Qrm3 Z p1 cs h0 n0 v U'.heap L ∧ FrameEnd U o U' L ({ frames := 2, cells := 2, slots := 5, locals := 27 } : Room).cells ({ frames := 2, cells := 2, slots := 5, locals := 27 } : Room).slots) := by
  refine MetFree.of_bodySF (plainFor_of_name pn_3) hisR ?_
  intro p e s m args below meth c s₁ Bd hml0 hP hK
  obtain ⟨rfl, hZ, hh⟩ := hP
  have hx := Bd.exec
  have hby := Bd.bytes
  have hml : c.maxLocals = 1 := hml0
  have hown : s.vm.findClass "java/lang/String" = some m.cls := findClass_of_methodNamed Bd.named
  have hnm := (name_of_methodNamed Bd.named Bd.method).1
  have hlk : meth.locks = false := BodyLoose.notSynchronized Bd
  have hret := Bd.returns
  have X0 : Stand p l e ({ frames := 2, cells := 2, slots := 5, locals := 27 } : Room) s m #[(.int p1)] below meth c s₁ [] 0 0 := Stand.of_body Bd
  have e0 : s₁.heap = h0 := by rw [← hh, Bd.state]; rfl
  have N0 := Fr.nil n0
  show Done p e below s (Qrm3 Z p1 cs h0 n0) ({ frames := 2, cells := 2, slots := 5, locals := 27 } : Room).cells ({ frames := 2, cells := 2, slots := 5, locals := 27 } : Room).slots (s₁.setTop (entryFrame m #[(.int p1)] 1))
  refine Done.step (fun t k => castTop (ef_3 m p1) k) ?_
  show Done p e below s _ _ _ (s₁.setTop (mkF m 0 #[.val (.int p1)] []))
  obtain ⟨T1, X1, e1, st1⟩ := getS2 X0 hx hZ hown (host := "") (Or.inl (hw _ (List.mem_of_getElem? (i := 11) rfl))) Via.refl e0 Scs (g := (mkF m 0 #[.val (.int p1)] [])) rfl (hb hby d3_0)
  refine Done.step st1 ?_
  show Done p e below s _ _ _ (T1.setTop (mkF m 3 #[.val (.int p1)] [(.int cs)]))
  refine Done.step (fun t k => XS.ifNo X1.here hx rfl (hb hby d3_3) rfl ((if0 _ _).trans (feq hcs).1) k) ?_
  show Done p e below s _ _ _ (T1.setTop (mkF m 6 #[.val (.int p1)] []))
  refine Done.step (fun t k => XS.iloadN X1.here hx rfl (hb hby d3_6) rfl k) ?_
  show Done p e below s _ _ _ (T1.setTop (mkF m 7 #[.val (.int p1)] [(.int p1)]))
  obtain ⟨v2, _, ⟨T2, L2, k2, n2⟩, -, X2, ⟨Lc2, hQ2, l2, y2, z2⟩, st2⟩ := Jvm.LawKit.callS X1 hx (y := (⟨"java/lang/StringLatin1", "canEncode", "(C)Z"⟩ : MethodName)) hown (mvT hZ (hw _ (List.mem_of_getElem? (i := 12) rfl))) (mvT hZ (hw _ (List.mem_of_getElem? (i := 13) rfl))) (mvT hZ (hw _ (List.mem_of_getElem? (i := 14) rfl))) (mvT hZ (hw _ (List.mem_of_getElem? (i := 15) rfl))) (by decide) (backOf (W := 0) (rm4 l Z a0 hw [] p1 h0 n0 Z0 ) hZ (hw _ (List.mem_of_getElem? (i := 15) rfl)) (hw _ (List.mem_of_getElem? (i := 14) rfl)) (by decide) (by decide)) (g := (mkF m 7 #[.val (.int p1)] [(.int p1)])) rfl (by rw [hml]; rfl) (argsL := [(.int p1)]) (rest := []) (lenOf pd_0 rfl) rfl (by show 2 * 0 + _ ≤ _; exact Nat.le_of_eq rfl) (hb hby d3_7) (fun _ _ => ⟨rfl, e1, (by decide : 0 + 0 ≤ _), (by decide : 0 + 0 ≤ _)⟩)
  dsimp only [Pt.U, Pt.locs, Pt.cells, Pt.slots] at X2 l2 y2 z2 st2 hQ2
  subst l2 y2 z2
  refine Done.step st2 ?_
  obtain ⟨rfl, N2q, e2⟩ := hQ2
  have N2 := Fr.app N0 N2q
  show Done p e below s _ _ _ (T2.setTop (mkF m 10 #[.val (.int p1)] [(.int (F4 p1))]))
  refine Done.step (fun t k => XS.ifNo X2.here hx rfl (hb hby d3_10) rfl ((if0 _ _).trans (feq hce).1) k) ?_
  show Done p e below s _ _ _ (T2.setTop (mkF m 13 #[.val (.int p1)] []))
  obtain ⟨T3, h3, X3, e3, E3, A3, D3, -, st3⟩ := newO X2 hx hZ hown (hw _ (List.mem_of_getElem? (i := 16) rfl)) (hw _ (List.mem_of_getElem? (i := 17) rfl)) (hw _ (List.mem_of_getElem? (i := 9) rfl)) e2 (g := (mkF m 13 #[.val (.int p1)] [])) rfl (hb hby d3_13) (by decide) (by decide)
  obtain ⟨b3, gq3⟩ : ∃ z, z = h0.size := ⟨_, rfl⟩
  rw [← gq3] at A3 D3 st3
  have f4 : Sta Z h3 "java/lang/String" "COMPACT_STRINGS" "Z" (.int cs) := Scs.ext E3
  have g_b3 : n0 ≤ b3 := Nat.le_trans Z0 (Nat.le_of_eq gq3.symm)
  have sz_b3 : h0.size ≤ b3 := Nat.le_trans (Keep.refl h0 []).1 (Nat.le_of_eq gq3.symm)
  have Z3 : n0 ≤ h3.size := Nat.le_trans Z0 E3.1
  have K3 : Keep h0 h3 [] := (Keep.refl h0 []).ext E3
  have f5 : Fld Z h3 b3 "java/lang/String" "value" "[B" .null := D3 (Or.inr (hw _ (List.mem_of_getElem? (i := 30) rfl))) (ty := (.array .byte)) (by decide)
  have f6 : Fld Z h3 b3 "java/lang/String" "coder" "B" (.int (0 : Int32)) := D3 (Or.inr (hw _ (List.mem_of_getElem? (i := 32) rfl))) (ty := .byte) (by decide)
  refine Done.step st3 ?_
  show Done p e below s _ _ _ (T3.setTop (mkF m 16 #[.val (.int p1)] [(.ref b3)]))
  refine Done.step (fun t k => XS.dup X3.here hx rfl (hb hby d3_16) rfl rfl k) ?_
  show Done p e below s _ _ _ (T3.setTop (mkF m 17 #[.val (.int p1)] [(.ref b3), (.ref b3)]))
  refine Done.step (fun t k => XS.iloadN X3.here hx rfl (hb hby d3_17) rfl k) ?_
  show Done p e below s _ _ _ (T3.setTop (mkF m 18 #[.val (.int p1)] [(.int p1), (.ref b3), (.ref b3)]))
  obtain ⟨v7, _, ⟨T7, L7, k7, n7⟩, -, X7, ⟨Lc7, hQ7, l7, y7, z7⟩, st7⟩ := Jvm.LawKit.callS X3 hx (y := (⟨"java/lang/StringLatin1", "toBytes", "(C)[B"⟩ : MethodName)) hown (mvT hZ (hw _ (List.mem_of_getElem? (i := 18) rfl))) (mvT hZ (hw _ (List.mem_of_getElem? (i := 19) rfl))) (mvT hZ (hw _ (List.mem_of_getElem? (i := 14) rfl))) (mvT hZ (hw _ (List.mem_of_getElem? (i := 20) rfl))) (by decide) (backOf (W := 2) (rm5 l Z a0 hw [] p1  h3 n0 Z3 ) hZ (hw _ (List.mem_of_getElem? (i := 20) rfl)) (hw _ (List.mem_of_getElem? (i := 14) rfl)) (by decide) (by decide)) (g := (mkF m 18 #[.val (.int p1)] [(.int p1), (.ref b3), (.ref b3)])) rfl (by rw [hml]; rfl) (argsL := [(.int p1)]) (rest := [(.ref b3), (.ref b3)]) (lenOf pd_1 rfl) rfl (by show 2 * 0 + _ ≤ _; exact Nat.le_of_eq rfl) (hb hby d3_18) (fun _ _ => ⟨rfl, e3, (by decide : 1 + 1 ≤ _), (by decide : 4 + 1 ≤ _)⟩)
  dsimp only [Pt.U, Pt.locs, Pt.cells, Pt.slots] at X7 l7 y7 z7 st7 hQ7
  subst l7 y7 z7
  refine Done.step st7 ?_
  obtain ⟨r7, rfl, N7q, ⟨K7q, x7⟩, sz_r7⟩ := hQ7
  have N7 := Fr.app N2 N7q
  have ne8 : b3 ≠ r7 := Nat.ne_of_lt (Nat.lt_of_lt_of_le A3.lt sz_r7)
  have f9 : Sta Z T7.heap "java/lang/String" "COMPACT_STRINGS" "Z" (.int cs) := own_stakeep f4 K7q all0
  have f10 : Exa Z T7.heap b3 "java/lang/String" := A3.keep K7q
  have f11 : Fld Z T7.heap b3 "java/lang/String" "value" "[B" .null := f5.keep K7q nin0
  have f12 : Fld Z T7.heap b3 "java/lang/String" "coder" "B" (.int (0 : Int32)) := f6.keep K7q nin0
  have Zk7 : n0 ≤ T7.heap.size := Nat.le_trans Z3 K7q.1
  have Kk7 : Keep h0 T7.heap [] := K3.trans K7q all0
  show Done p e below s _ _ _ (T7.setTop (mkF m 21 #[.val (.int p1)] [(.ref r7), (.ref b3), (.ref b3)]))
  refine Done.step (fun t k => XS.iconst X7.here hx rfl (hb hby d3_21) k) ?_
  show Done p e below s _ _ _ (T7.setTop (mkF m 22 #[.val (.int p1)] [(.int (0 : Int32)), (.ref r7), (.ref b3), (.ref b3)]))
  obtain ⟨v13, _, ⟨T13, L13, k13, n13⟩, -, X13, ⟨Lc13, hQ13, l13, y13, z13⟩, st13⟩ := X7.specialBack hx (y := (⟨"java/lang/String", "<init>", "([BB)V"⟩ : MethodName)) rfl hown (mvT hZ (hw _ (List.mem_of_getElem? (i := 22) rfl))) (mvT hZ (hw _ (List.mem_of_getElem? (i := 23) rfl))) (mvT hZ (hw _ (List.mem_of_getElem? (i := 25) rfl))) (by decide) (backOf (W := 1) (rm6 l Z a0 hw [] b3 r7 (0 : Int32)  T7.heap n0 Zk7 f10 f11 f12 g_b3) hZ (hw _ (List.mem_of_getElem? (i := 25) rfl)) (hw _ (List.mem_of_getElem? (i := 9) rfl)) (by decide) (by decide)) (g := (mkF m 22 #[.val (.int p1)] [(.int (0 : Int32)), (.ref r7), (.ref b3), (.ref b3)])) rfl (by rw [hml]; rfl) (Steps.refl _) (a := b3) (argsL := [(.ref r7), (.int (0 : Int32))]) (rest := [(.ref b3)]) (lenOf pd_2 rfl) rfl (by show 2 * 0 + _ ≤ _; exact Nat.le_of_eq rfl) (hb hby d3_22) (fun _ _ => ⟨rfl, rfl, (by decide : 2 + 0 ≤ _), (by decide : 5 + 0 ≤ _)⟩)
  dsimp only [Pt.U, Pt.locs, Pt.cells, Pt.slots] at X13 l13 y13 z13 st13 hQ13
  subst l13 y13 z13
  refine Done.far st13 ?_
  obtain ⟨rfl, N13q, K13q, x13, y13_0, y13_1⟩ := hQ13
  have N13 := Fr.app N7 N13q
  have f14 : Sta Z T13.heap "java/lang/String" "COMPACT_STRINGS" "Z" (.int cs) := own_stakeep f9 K13q (allS (own_unst f10) all0)
  have f15 : Exa Z T13.heap b3 "java/lang/String" := f10.keep K13q
  have f16 : Exa Z T13.heap r7 "[B" := x7.keep K13q
  have Zk13 : n0 ≤ T13.heap.size := Nat.le_trans Zk7 K13q.1
  have Kk13 : Keep h0 T13.heap [] := Kk7.trans K13q (allS (Or.inr sz_b3) all0)
  show Done p e below s _ _ _ (T13.setTop (mkF m 25 #[.val (.int p1)] [(.ref b3)]))
  exact Done.ref X13 hx hlk hret rfl rfl rfl (hb hby d3_25) (by decide) (by decide) ⟨b3, rfl, N13, ⟨Kk13, f15⟩⟩
theorem d8_0 : decode prog_15_method_6_code 0 = .ok (.lload_n 0, 1) := by decide +kernel
theorem d8_1 : decode prog_15_method_6_code 1 = .ok (.lload_n 2, 1) := by decide +kernel
theorem d8_2 : decode prog_15_method_6_code 2 = .ok (.lcmp, 1) := by decide +kernel
theorem d8_3 : decode prog_15_method_6_code 3 = .ok (.ifCond .ge 20, 3) := by decide +kernel
theorem d8_23 : decode prog_15_method_6_code 23 = .ok (.lload_n 0, 1) := by decide +kernel
theorem d8_24 : decode prog_15_method_6_code 24 = .ok (.lreturn, 1) := by decide +kernel
def F8 (q1 : Int64) (q2 : Int64) : Int64 := q1
theorem pn_8 : plainName "com/example/stowage/stowage/model/Require" = true := by first | (simp [plainName, overriddenIn]; done) | decide +kernel
theorem ef_8 (m : MethodId) (q1 : Int64) (q2 : Int64) (a3 : Addr) : entryFrame m #[(.long q1), (.long q2), (.ref a3)] 5 = mkF m 0 #[.val (.long q1), .second, .val (.long q2), .second, .val (.ref a3)] [] := by first | (simp [entryFrame, mkF, argsToLocals, Value.category]; done) | rfl
def Qrm8 (Z : State) (q1 : Int64) (q2 : Int64) (a3 : Addr) (h0 : Heap) (n0 : Nat) : Option Value → Heap → List Loc → Prop := fun v h L => v = some (.long (F8 q1 q2)) ∧ Fr n0 L ∧ h = h0
set_option maxRecDepth 65536 in
set_option maxHeartbeats 40000000 in
theorem rm8 (l : Launch) (Z : State) (a0 : Array Value) (hw : ∀ d ∈ tables_1, d.before a0 Z = true) (ws : List Jvm.Cond) (q1 : Int64) (q2 : Int64) (a3 : Addr) (h0 : Heap) (n0 : Nat) (Z0 : n0 ≤ h0.size) (hp : ¬ q1 < q2) :
    MetFree l (⟨"com/example/stowage/stowage/model/Require", "notBelow", "(JJLjava/lang/String;)J"⟩ : MethodName) (head1 (Jvm.Cond.code (⟨"com/example/stowage/stowage/model/Require", "notBelow", "(JJLjava/lang/String;)J"⟩ : MethodName) prog_15_method_6_code 5 (some .long) :: ws) ({ frames := 0, cells := 0, slots := 0, locals := 0 } : Room)) (fun a U => a = #[(.long q1), (.long q2), (.ref a3)] ∧ Z.Warmed39 U.vm ∧ U.heap = h0) (fun _ _ _ _ _ => True) (fun _ U o U' => ∃ v L, o = .returned v ∧ Qrm8 Z q1 q2 a3 h0 n0 v U'.heap L ∧ FrameEnd U o U' L ({ frames := 0, cells := 0, slots := 0, locals := 0 } : Room).cells ({ frames := 0, cells := 0, slots := 0, locals := 0 } : Room).slots) := by
  refine MetFree.of_bodySF (plainFor_of_name pn_8) hisR ?_
  intro p e s m args below meth c s₁ Bd hml0 hP hK
  obtain ⟨rfl, hZ, hh⟩ := hP
  have hx := Bd.exec
  have hby := Bd.bytes
  have hml : c.maxLocals = 5 := hml0
  have hown : s.vm.findClass "com/example/stowage/stowage/model/Require" = some m.cls := findClass_of_methodNamed Bd.named
  have hnm := (name_of_methodNamed Bd.named Bd.method).1
  have hlk : meth.locks = false := BodyLoose.notSynchronized Bd
  have hret := Bd.returns
  have X0 : Stand p l e ({ frames := 0, cells := 0, slots := 0, locals := 0 } : Room) s m #[(.long q1), (.long q2), (.ref a3)] below meth c s₁ [] 0 0 := Stand.of_body Bd
  have e0 : s₁.heap = h0 := by rw [← hh, Bd.state]; rfl
  have N0 := Fr.nil n0
  show Done p e below s (Qrm8 Z q1 q2 a3 h0 n0) ({ frames := 0, cells := 0, slots := 0, locals := 0 } : Room).cells ({ frames := 0, cells := 0, slots := 0, locals := 0 } : Room).slots (s₁.setTop (entryFrame m #[(.long q1), (.long q2), (.ref a3)] 5))
  refine Done.step (fun t k => castTop (ef_8 m q1 q2 a3) k) ?_
  show Done p e below s _ _ _ (s₁.setTop (mkF m 0 #[.val (.long q1), .second, .val (.long q2), .second, .val (.ref a3)] []))
  refine Done.step (fun t k => XS.lloadN X0.here hx rfl (hb hby d8_0) rfl k) ?_
  show Done p e below s _ _ _ (s₁.setTop (mkF m 1 #[.val (.long q1), .second, .val (.long q2), .second, .val (.ref a3)] [(.long q1)]))
  refine Done.step (fun t k => XS.lloadN X0.here hx rfl (hb hby d8_1) rfl k) ?_
  show Done p e below s _ _ _ (s₁.setTop (mkF m 2 #[.val (.long q1), .second, .val (.long q2), .second, .val (.ref a3)] [(.long q2), (.long q1)]))
  refine Done.step (fun t k => XS.lcmp X0.here hx rfl (hb hby d8_2) rfl k) ?_
  show Done p e below s _ _ _ (s₁.setTop (mkF m 3 #[.val (.long q1), .second, .val (.long q2), .second, .val (.ref a3)] [(.int (lcmpW q1 q2))]))
  refine Done.step (fun t k => XS.ifYes X0.here hx rfl (pc0 := 3) (pc' := 23) rfl (hb hby d8_3) rfl ((if0 _ _).trans (flt (fun q_ => hp ((lw_lt _ _).mp q_))).2.1) (by decide) (by decide) k) ?_
  show Done p e below s _ _ _ (s₁.setTop (mkF m 23 #[.val (.long q1), .second, .val (.long q2), .second, .val (.ref a3)] []))
  refine Done.step (fun t k => XS.lloadN X0.here hx rfl (hb hby d8_23) rfl k) ?_
  show Done p e below s _ _ _ (s₁.setTop (mkF m 24 #[.val (.long q1), .second, .val (.long q2), .second, .val (.ref a3)] [(.long q1)]))
  exact Done.long X0 hx hlk hret (hb hby d8_24) (by decide) (by decide) ⟨by rw [show F8 q1 q2 = q1 from by unfold F8; rfl] <;> rfl, N0, e0⟩
theorem tl32_0 : (0 : Int32).toInt = 0 := by decide
theorem tl32_1 : (1 : Int32).toInt = 1 := by decide
theorem tl32_255 : (255 : Int32).toInt = 255 := by decide
def F0 (q1 : Int64) (q2 : Int64) (p3 : Int32) : Int32 := (if (F8 (F1 q1 q2) (F2 q1 q2)) = (F1 q1 q2) then (1 : Int32)
  else (0 : Int32))
theorem own_nb (q1 q2 : Int64) : ¬ (F1 q1 q2) < (F2 q1 q2) := by
  unfold F1 F2
  simp only [Int64.lt_iff_toInt_lt]
  repeat' split
  all_goals omega
theorem own_ce (p3 : Int32) : ¬ (F4 (p3 &&& (255 : Int32)).toUInt32.toUInt16.toUInt32.toInt32) = (0 : Int32) := by
  have m := c_mask p3 (255 : Int32) 8 (by decide) (by decide)
  rw [i2c_mask]
  unfold F4
  rw [if_neg]
  · decide
  · rw [Int32.lt_iff_toInt_lt, tl32_255]; omega
theorem law_one (q1 q2 : Int64) (p3 : Int32) : F0 q1 q2 p3 = 1 := by
  unfold F0 F8
  simp
theorem pn_0 : plainName "com/example/stowage/stowage/model/RequireNotBelowPinLaw" = true := by first | (simp [plainName, overriddenIn]; done) | decide +kernel
theorem ef_0 (m : MethodId) (q1 : Int64) (q2 : Int64) (p3 : Int32) : entryFrame m #[(.long q1), (.long q2), (.int p3)] maxLocals = mkF m 0 #[.val (.long q1), .second, .val (.long q2), .second, .val (.int p3), .unset, .unset, .unset, .unset, .unset] [] := by first | (simp [entryFrame, mkF, argsToLocals, Value.category, maxLocals]; done) | rfl
def Qrm0 (Z : State) (q1 : Int64) (q2 : Int64) (p3 : Int32) (cs : Int32) (h0 : Heap) (n0 : Nat) : Option Value → Heap → List Loc → Prop := fun v h L => v = some (.int 1) ∧ Fr n0 L
set_option maxRecDepth 65536 in
set_option maxHeartbeats 40000000 in
theorem rm0 (l : Launch) (Z : State) (a0 : Array Value) (hw : ∀ d ∈ tables_1, d.before a0 Z = true) (ws : List Jvm.Cond) (q1 : Int64) (q2 : Int64) (p3 : Int32) (cs : Int32) (h0 : Heap) (n0 : Nat) (Z0 : n0 ≤ h0.size) (Scs : Sta Z h0 "java/lang/String" "COMPACT_STRINGS" "Z" (.int cs)) (hcs : ¬ cs = (0 : Int32)) :
    MetFree l x (head1 (Jvm.Cond.code x code maxLocals ret :: ws) room_1) (fun a U => a = #[(.long q1), (.long q2), (.int p3)] ∧ Z.Warmed39 U.vm ∧ U.heap = h0) (fun _ _ _ _ _ => True) (fun _ U o U' => ∃ v L, o = .returned v ∧ Qrm0 Z q1 q2 p3 cs h0 n0 v U'.heap L ∧ FrameEnd U o U' L room_1.cells room_1.slots) := by
  refine MetFree.of_bodySF (plainFor_of_name pn_0) hisR ?_
  intro p e s m args below meth c s₁ Bd hml0 hP hK
  obtain ⟨rfl, hZ, hh⟩ := hP
  have hx := Bd.exec
  have hby := Bd.bytes
  have hml : c.maxLocals = 10 := hml0
  have hown : s.vm.findClass "com/example/stowage/stowage/model/RequireNotBelowPinLaw" = some m.cls := findClass_of_methodNamed Bd.named
  have hnm := (name_of_methodNamed Bd.named Bd.method).1
  have hlk : meth.locks = false := BodyLoose.notSynchronized Bd
  have hret := Bd.returns
  have X0 : Stand p l e room_1 s m #[(.long q1), (.long q2), (.int p3)] below meth c s₁ [] 0 0 := Stand.of_body Bd
  have e0 : s₁.heap = h0 := by rw [← hh, Bd.state]; rfl
  have N0 := Fr.nil n0
  show Done p e below s (Qrm0 Z q1 q2 p3 cs h0 n0) room_1.cells room_1.slots (s₁.setTop (entryFrame m #[(.long q1), (.long q2), (.int p3)] maxLocals))
  refine Done.step (fun t k => castTop (ef_0 m q1 q2 p3) k) ?_
  show Done p e below s _ _ _ (s₁.setTop (mkF m 0 #[.val (.long q1), .second, .val (.long q2), .second, .val (.int p3), .unset, .unset, .unset, .unset, .unset] []))
  refine Done.step (fun t k => XS.lloadN X0.here hx rfl (hb hby at_0) rfl k) ?_
  show Done p e below s _ _ _ (s₁.setTop (mkF m 1 #[.val (.long q1), .second, .val (.long q2), .second, .val (.int p3), .unset, .unset, .unset, .unset, .unset] [(.long q1)]))
  refine Done.step (fun t k => XS.lloadN X0.here hx rfl (hb hby at_1) rfl k) ?_
  show Done p e below s _ _ _ (s₁.setTop (mkF m 2 #[.val (.long q1), .second, .val (.long q2), .second, .val (.int p3), .unset, .unset, .unset, .unset, .unset] [(.long q2), (.long q1)]))
  obtain ⟨v1, _, ⟨T1, L1, k1, n1⟩, -, X1, ⟨Lc1, hQ1, l1, y1, z1⟩, st1⟩ := Jvm.LawKit.callS X0 hx (y := (⟨"java/lang/Math", "max", "(JJ)J"⟩ : MethodName)) hown (mvT hZ (hw _ (List.mem_of_getElem? (i := 0) rfl))) (mvT hZ (hw _ (List.mem_of_getElem? (i := 1) rfl))) (mvT hZ (hw _ (List.mem_of_getElem? (i := 2) rfl))) (mvT hZ (hw _ (List.mem_of_getElem? (i := 3) rfl))) (by decide) (backOf (W := 0) (rm1 l Z a0 hw [] q1 q2 h0 n0 Z0 ) hZ (hw _ (List.mem_of_getElem? (i := 3) rfl)) (hw _ (List.mem_of_getElem? (i := 2) rfl)) (by decide) (by decide)) (g := (mkF m 2 #[.val (.long q1), .second, .val (.long q2), .second, .val (.int p3), .unset, .unset, .unset, .unset, .unset] [(.long q2), (.long q1)])) rfl (by rw [hml]; rfl) (argsL := [(.long q1), (.long q2)]) (rest := []) (lenOf pd_3 rfl) rfl (by show 2 * 0 + _ ≤ _; exact Nat.le_of_eq rfl) (hb hby at_2) (fun _ _ => ⟨rfl, e0, (by decide : 0 + 0 ≤ _), (by decide : 0 + 0 ≤ _)⟩)
  dsimp only [Pt.U, Pt.locs, Pt.cells, Pt.slots] at X1 l1 y1 z1 st1 hQ1
  subst l1 y1 z1
  refine Done.step st1 ?_
  obtain ⟨rfl, N1q, e1⟩ := hQ1
  have N1 := Fr.app N0 N1q
  show Done p e below s _ _ _ (T1.setTop (mkF m 5 #[.val (.long q1), .second, .val (.long q2), .second, .val (.int p3), .unset, .unset, .unset, .unset, .unset] [(.long (F1 q1 q2))]))
  refine Done.step (fun t k => XS.lstore X1.here hx rfl (hb hby at_5) rfl (l' := #[.val (.long q1), .second, .val (.long q2), .second, .val (.int p3), .val (.long (F1 q1 q2)), .second, .unset, .unset, .unset]) rfl k) ?_
  show Done p e below s _ _ _ (T1.setTop (mkF m 7 #[.val (.long q1), .second, .val (.long q2), .second, .val (.int p3), .val (.long (F1 q1 q2)), .second, .unset, .unset, .unset] []))
  refine Done.step (fun t k => XS.lloadN X1.here hx rfl (hb hby at_7) rfl k) ?_
  show Done p e below s _ _ _ (T1.setTop (mkF m 8 #[.val (.long q1), .second, .val (.long q2), .second, .val (.int p3), .val (.long (F1 q1 q2)), .second, .unset, .unset, .unset] [(.long q1)]))
  refine Done.step (fun t k => XS.lloadN X1.here hx rfl (hb hby at_8) rfl k) ?_
  show Done p e below s _ _ _ (T1.setTop (mkF m 9 #[.val (.long q1), .second, .val (.long q2), .second, .val (.int p3), .val (.long (F1 q1 q2)), .second, .unset, .unset, .unset] [(.long q2), (.long q1)]))
  obtain ⟨v2, _, ⟨T2, L2, k2, n2⟩, -, X2, ⟨Lc2, hQ2, l2, y2, z2⟩, st2⟩ := Jvm.LawKit.callS X1 hx (y := (⟨"java/lang/Math", "min", "(JJ)J"⟩ : MethodName)) hown (mvT hZ (hw _ (List.mem_of_getElem? (i := 4) rfl))) (mvT hZ (hw _ (List.mem_of_getElem? (i := 5) rfl))) (mvT hZ (hw _ (List.mem_of_getElem? (i := 2) rfl))) (mvT hZ (hw _ (List.mem_of_getElem? (i := 6) rfl))) (by decide) (backOf (W := 0) (rm2 l Z a0 hw [] q1 q2 h0 n0 Z0 ) hZ (hw _ (List.mem_of_getElem? (i := 6) rfl)) (hw _ (List.mem_of_getElem? (i := 2) rfl)) (by decide) (by decide)) (g := (mkF m 9 #[.val (.long q1), .second, .val (.long q2), .second, .val (.int p3), .val (.long (F1 q1 q2)), .second, .unset, .unset, .unset] [(.long q2), (.long q1)])) rfl (by rw [hml]; rfl) (argsL := [(.long q1), (.long q2)]) (rest := []) (lenOf pd_3 rfl) rfl (by show 2 * 0 + _ ≤ _; exact Nat.le_of_eq rfl) (hb hby at_9) (fun _ _ => ⟨rfl, e1, (by decide : 0 + 0 ≤ _), (by decide : 0 + 0 ≤ _)⟩)
  dsimp only [Pt.U, Pt.locs, Pt.cells, Pt.slots] at X2 l2 y2 z2 st2 hQ2
  subst l2 y2 z2
  refine Done.step st2 ?_
  obtain ⟨rfl, N2q, e2⟩ := hQ2
  have N2 := Fr.app N1 N2q
  show Done p e below s _ _ _ (T2.setTop (mkF m 12 #[.val (.long q1), .second, .val (.long q2), .second, .val (.int p3), .val (.long (F1 q1 q2)), .second, .unset, .unset, .unset] [(.long (F2 q1 q2))]))
  refine Done.step (fun t k => XS.lstore X2.here hx rfl (hb hby at_12) rfl (l' := #[.val (.long q1), .second, .val (.long q2), .second, .val (.int p3), .val (.long (F1 q1 q2)), .second, .val (.long (F2 q1 q2)), .second, .unset]) rfl k) ?_
  show Done p e below s _ _ _ (T2.setTop (mkF m 14 #[.val (.long q1), .second, .val (.long q2), .second, .val (.int p3), .val (.long (F1 q1 q2)), .second, .val (.long (F2 q1 q2)), .second, .unset] []))
  refine Done.step (fun t k => XS.iload X2.here hx rfl (hb hby at_14) rfl k) ?_
  show Done p e below s _ _ _ (T2.setTop (mkF m 16 #[.val (.long q1), .second, .val (.long q2), .second, .val (.int p3), .val (.long (F1 q1 q2)), .second, .val (.long (F2 q1 q2)), .second, .unset] [(.int p3)]))
  refine Done.step (fun t k => XS.sipush X2.here hx rfl (hb hby at_16) k) ?_
  show Done p e below s _ _ _ (T2.setTop (mkF m 19 #[.val (.long q1), .second, .val (.long q2), .second, .val (.int p3), .val (.long (F1 q1 q2)), .second, .val (.long (F2 q1 q2)), .second, .unset] [(.int (255 : Int32)), (.int p3)]))
  refine Done.step (fun t k => XS.iand X2.here hx rfl (hb hby at_19) rfl k) ?_
  show Done p e below s _ _ _ (T2.setTop (mkF m 20 #[.val (.long q1), .second, .val (.long q2), .second, .val (.int p3), .val (.long (F1 q1 q2)), .second, .val (.long (F2 q1 q2)), .second, .unset] [(.int (p3 &&& (255 : Int32)))]))
  refine Done.step (fun t k => XS.i2c X2.here hx rfl (hb hby at_20) rfl k) ?_
  show Done p e below s _ _ _ (T2.setTop (mkF m 21 #[.val (.long q1), .second, .val (.long q2), .second, .val (.int p3), .val (.long (F1 q1 q2)), .second, .val (.long (F2 q1 q2)), .second, .unset] [(.int ((p3 &&& (255 : Int32))).toUInt32.toUInt16.toUInt32.toInt32)]))
  obtain ⟨v3, _, ⟨T3, L3, k3, n3⟩, -, X3, ⟨Lc3, hQ3, l3, y3, z3⟩, st3⟩ := Jvm.LawKit.callS X2 hx (y := (⟨"java/lang/String", "valueOf", "(C)Ljava/lang/String;"⟩ : MethodName)) hown (mvT hZ (hw _ (List.mem_of_getElem? (i := 7) rfl))) (mvT hZ (hw _ (List.mem_of_getElem? (i := 8) rfl))) (mvT hZ (hw _ (List.mem_of_getElem? (i := 9) rfl))) (mvT hZ (hw _ (List.mem_of_getElem? (i := 10) rfl))) (by decide) (backOf (W := 0) (rm3 l Z a0 hw [] ((p3 &&& (255 : Int32))).toUInt32.toUInt16.toUInt32.toInt32 cs h0 n0 Z0 Scs hcs (own_ce p3)) hZ (hw _ (List.mem_of_getElem? (i := 10) rfl)) (hw _ (List.mem_of_getElem? (i := 9) rfl)) (by decide) (by decide)) (g := (mkF m 21 #[.val (.long q1), .second, .val (.long q2), .second, .val (.int p3), .val (.long (F1 q1 q2)), .second, .val (.long (F2 q1 q2)), .second, .unset] [(.int ((p3 &&& (255 : Int32))).toUInt32.toUInt16.toUInt32.toInt32)])) rfl (by rw [hml]; rfl) (argsL := [(.int ((p3 &&& (255 : Int32))).toUInt32.toUInt16.toUInt32.toInt32)]) (rest := []) (lenOf pd_4 rfl) rfl (by show 2 * 0 + _ ≤ _; exact Nat.le_of_eq rfl) (hb hby at_21) (fun _ _ => ⟨rfl, e2, (by decide : 0 + 2 ≤ _), (by decide : 0 + 5 ≤ _)⟩)
  dsimp only [Pt.U, Pt.locs, Pt.cells, Pt.slots] at X3 l3 y3 z3 st3 hQ3
  subst l3 y3 z3
  refine Done.step st3 ?_
  obtain ⟨r3, rfl, N3q, K3q, x3⟩ := hQ3
  have N3 := Fr.app N2 N3q
  have f4 : Sta Z T3.heap "java/lang/String" "COMPACT_STRINGS" "Z" (.int cs) := own_stakeep Scs K3q all0
  have Zk3 : n0 ≤ T3.heap.size := Nat.le_trans Z0 K3q.1
  show Done p e below s _ _ _ (T3.setTop (mkF m 24 #[.val (.long q1), .second, .val (.long q2), .second, .val (.int p3), .val (.long (F1 q1 q2)), .second, .val (.long (F2 q1 q2)), .second, .unset] [(.ref r3)]))
  refine Done.step (fun t k => XS.astore X3.here hx rfl (hb hby at_24) rfl rfl (l' := #[.val (.long q1), .second, .val (.long q2), .second, .val (.int p3), .val (.long (F1 q1 q2)), .second, .val (.long (F2 q1 q2)), .second, .val (.ref r3)]) rfl k) ?_
  show Done p e below s _ _ _ (T3.setTop (mkF m 26 #[.val (.long q1), .second, .val (.long q2), .second, .val (.int p3), .val (.long (F1 q1 q2)), .second, .val (.long (F2 q1 q2)), .second, .val (.ref r3)] []))
  refine Done.step (fun t k => XS.lload X3.here hx rfl (hb hby at_26) rfl k) ?_
  show Done p e below s _ _ _ (T3.setTop (mkF m 28 #[.val (.long q1), .second, .val (.long q2), .second, .val (.int p3), .val (.long (F1 q1 q2)), .second, .val (.long (F2 q1 q2)), .second, .val (.ref r3)] [(.long (F1 q1 q2))]))
  refine Done.step (fun t k => XS.lload X3.here hx rfl (hb hby at_28) rfl k) ?_
  show Done p e below s _ _ _ (T3.setTop (mkF m 30 #[.val (.long q1), .second, .val (.long q2), .second, .val (.int p3), .val (.long (F1 q1 q2)), .second, .val (.long (F2 q1 q2)), .second, .val (.ref r3)] [(.long (F2 q1 q2)), (.long (F1 q1 q2))]))
  refine Done.step (fun t k => XS.aload X3.here hx rfl (hb hby at_30) rfl rfl k) ?_
  show Done p e below s _ _ _ (T3.setTop (mkF m 32 #[.val (.long q1), .second, .val (.long q2), .second, .val (.int p3), .val (.long (F1 q1 q2)), .second, .val (.long (F2 q1 q2)), .second, .val (.ref r3)] [(.ref r3), (.long (F2 q1 q2)), (.long (F1 q1 q2))]))
  obtain ⟨v5, _, ⟨T5, L5, k5, n5⟩, -, X5, ⟨Lc5, hQ5, l5, y5, z5⟩, st5⟩ := Jvm.LawKit.callS X3 hx (y := (⟨"com/example/stowage/stowage/model/Require", "notBelow", "(JJLjava/lang/String;)J"⟩ : MethodName)) hown (mvT hZ (hw _ (List.mem_of_getElem? (i := 33) rfl))) (mvT hZ (hw _ (List.mem_of_getElem? (i := 34) rfl))) (mvT hZ (hw _ (List.mem_of_getElem? (i := 35) rfl))) (mvT hZ (hw _ (List.mem_of_getElem? (i := 36) rfl))) (by decide) (backOf (W := 0) (rm8 l Z a0 hw [] (F1 q1 q2) (F2 q1 q2) r3  T3.heap n0 Zk3 (own_nb q1 q2)) hZ (hw _ (List.mem_of_getElem? (i := 36) rfl)) (hw _ (List.mem_of_getElem? (i := 35) rfl)) (by decide) (by decide)) (g := (mkF m 32 #[.val (.long q1), .second, .val (.long q2), .second, .val (.int p3), .val (.long (F1 q1 q2)), .second, .val (.long (F2 q1 q2)), .second, .val (.ref r3)] [(.ref r3), (.long (F2 q1 q2)), (.long (F1 q1 q2))])) rfl (by rw [hml]; rfl) (argsL := [(.long (F1 q1 q2)), (.long (F2 q1 q2)), (.ref r3)]) (rest := []) (lenOf pd_5 rfl) rfl (by show 2 * 0 + _ ≤ _; exact Nat.le_of_eq rfl) (hb hby at_32) (fun _ _ => ⟨rfl, rfl, (by decide : 2 + 0 ≤ _), (by decide : 5 + 0 ≤ _)⟩)
  dsimp only [Pt.U, Pt.locs, Pt.cells, Pt.slots] at X5 l5 y5 z5 st5 hQ5
  subst l5 y5 z5
  refine Done.step st5 ?_
  obtain ⟨rfl, N5q, e5⟩ := hQ5
  have N5 := Fr.app N3 N5q
  show Done p e below s _ _ _ (T5.setTop (mkF m 35 #[.val (.long q1), .second, .val (.long q2), .second, .val (.int p3), .val (.long (F1 q1 q2)), .second, .val (.long (F2 q1 q2)), .second, .val (.ref r3)] [(.long (F8 (F1 q1 q2) (F2 q1 q2)))]))
  refine Done.step (fun t k => XS.lload X5.here hx rfl (hb hby at_35) rfl k) ?_
  show Done p e below s _ _ _ (T5.setTop (mkF m 37 #[.val (.long q1), .second, .val (.long q2), .second, .val (.int p3), .val (.long (F1 q1 q2)), .second, .val (.long (F2 q1 q2)), .second, .val (.ref r3)] [(.long (F1 q1 q2)), (.long (F8 (F1 q1 q2) (F2 q1 q2)))]))
  refine Done.step (fun t k => XS.lcmp X5.here hx rfl (hb hby at_37) rfl k) ?_
  show Done p e below s _ _ _ (T5.setTop (mkF m 38 #[.val (.long q1), .second, .val (.long q2), .second, .val (.int p3), .val (.long (F1 q1 q2)), .second, .val (.long (F2 q1 q2)), .second, .val (.ref r3)] [(.int (lcmpW (F8 (F1 q1 q2) (F2 q1 q2)) (F1 q1 q2)))]))
  by_cases c6 : (F8 (F1 q1 q2) (F2 q1 q2)) = (F1 q1 q2)
  · refine Done.step (fun t k => XS.ifNo X5.here hx rfl (hb hby at_38) rfl ((if0 _ _).trans (teq ((lw_eq _ _).mpr c6)).2) k) ?_
    show Done p e below s _ _ _ (T5.setTop (mkF m 41 #[.val (.long q1), .second, .val (.long q2), .second, .val (.int p3), .val (.long (F1 q1 q2)), .second, .val (.long (F2 q1 q2)), .second, .val (.ref r3)] []))
    refine Done.step (fun t k => XS.iconst X5.here hx rfl (hb hby at_41) k) ?_
    show Done p e below s _ _ _ (T5.setTop (mkF m 42 #[.val (.long q1), .second, .val (.long q2), .second, .val (.int p3), .val (.long (F1 q1 q2)), .second, .val (.long (F2 q1 q2)), .second, .val (.ref r3)] [(.int (1 : Int32))]))
    refine Done.step (fun t k => XS.goto X5.here hx rfl (pc0 := 42) (pc' := 46) rfl (hb hby at_42) (by decide) (by decide) k) ?_
    show Done p e below s _ _ _ (T5.setTop (mkF m 46 #[.val (.long q1), .second, .val (.long q2), .second, .val (.int p3), .val (.long (F1 q1 q2)), .second, .val (.long (F2 q1 q2)), .second, .val (.ref r3)] [(.int (1 : Int32))]))
    exact Done.narr X5 hx hlk hret (by simp) (hb hby at_46) (by decide) (by decide) ⟨by rw [← law_one q1 q2 p3, show F0 q1 q2 p3 = (1 : Int32) from by unfold F0; rw [if_pos c6]] <;> rfl, N5⟩
  · refine Done.step (fun t k => XS.ifYes X5.here hx rfl (pc0 := 38) (pc' := 45) rfl (hb hby at_38) rfl ((if0 _ _).trans (feq (fun q_ => c6 ((lw_eq _ _).mp q_))).2) (by decide) (by decide) k) ?_
    show Done p e below s _ _ _ (T5.setTop (mkF m 45 #[.val (.long q1), .second, .val (.long q2), .second, .val (.int p3), .val (.long (F1 q1 q2)), .second, .val (.long (F2 q1 q2)), .second, .val (.ref r3)] []))
    refine Done.step (fun t k => XS.iconst X5.here hx rfl (hb hby at_45) k) ?_
    show Done p e below s _ _ _ (T5.setTop (mkF m 46 #[.val (.long q1), .second, .val (.long q2), .second, .val (.int p3), .val (.long (F1 q1 q2)), .second, .val (.long (F2 q1 q2)), .second, .val (.ref r3)] [(.int (0 : Int32))]))
    exact Done.narr X5 hx hlk hret (by simp) (hb hby at_46) (by decide) (by decide) ⟨by rw [← law_one q1 q2 p3, show F0 q1 q2 p3 = (0 : Int32) from by unfold F0; rw [if_neg c6]] <;> rfl, N5⟩
set_option maxRecDepth 65536 in
set_option maxHeartbeats 40000000 in
theorem comes_1 {Post : Tables → Env → Array Value → State → Outcome → State → Prop} (hpost : ∀ tb e args s v u, (limb_1_1.after args s (.returned v) u = true ∧ limb_1_2.after args s (.returned v) u = true ∧ True) → FrameEnd s (.returned v) u (Jvm.fieldLocs frame_1_writes args s ++ Jvm.arrayLocs frame_1_arrays args s ++ Jvm.staticLocs frame_1_statics s) 16 128 → Post tb e args s (.returned v) u) :
    ArmFor flags0 classFile x code maxLocals ret World_1 tables_1 room_1 Calls_1 rest_1 Pre_1 Post := by
  intro l hfl _ _ p e ha hc hk s m args below hf hA hF happ hP
  obtain ⟨hcalls, hrest, hpre⟩ := hP
  obtain ⟨-, -, -, hnamed, -, -, -, hat⟩ := (Spec.applies_iff hf).mp happ
  obtain ⟨hg, hn⟩ := and_e (Cond.before_iff.mp (show (Jvm.Cond.and given_1 narrow_1).before args s = true from hpre))
  obtain ⟨hcnt, g0⟩ := and_e hg
  obtain ⟨u0, g1⟩ := and_e g0
  obtain ⟨u1, g2⟩ := and_e g1
  have u2 := g2
  obtain ⟨w0, w1, w2, rfl⟩ : ∃ w0 w1 w2 : Value, args = #[w0, w1, w2] := by
    have hs : args.size = 3 := by simpa [Cond.value, given_1] using hcnt
    obtain ⟨L⟩ := args
    match L, hs with
    | [w0, w1, w2], _ => exact ⟨w0, w1, w2, rfl⟩
  have hw := fun d (hd : d ∈ tables_1) => atoms_spec (ws := Jvm.Cond.code x code maxLocals ret :: tables_1) hat d (List.mem_cons_of_mem _ hd)
  have hfit : Fit s := fun {y c} hc i hi => by
    obtain ⟨ha, rfl⟩ := Array.getElem?_eq_some_iff.mp hc
    have q := List.all_eq_true.mp ((Array.all_eq_true_iff_forall_mem.mp hF) _ (Array.getElem_mem ha)) i (List.mem_range.mpr hi)
    simpa [Array.getElem?_eq_getElem hi] using q
  obtain ⟨i0, ei0⟩ := isL_v u0
  obtain rfl : w0 = (.long i0) := Option.some.inj ei0
  obtain ⟨i1, ei1⟩ := isL_v u1
  obtain rfl : w1 = (.long i1) := Option.some.inj ei1
  obtain ⟨i2, ei2⟩ := is_v u2
  obtain rfl : w2 = (.int i2) := Option.some.inj ei2
  obtain ⟨hsets, hown0⟩ := atoms_of _ (rest_1_c_eq ▸ (show rest_1_c.before _ s = true from hrest))
  have n5 := not_v (Cond.before_iff.mp (hsets _ (List.mem_of_getElem? (i := 2) rfl)))
  obtain ⟨cs, ecs⟩ := is_v (Cond.before_iff.mp (hsets _ (List.mem_of_getElem? (i := 1) rfl)))
  obtain ⟨n, o, h1, h2, h3, _, L, rfl, ⟨rfl, N⟩, hq⟩ := rm0 l s _ hw tables_1 i0 i1 i2 cs s.heap s.heap.size (Nat.le_refl _) (Sta.start ecs (Or.inl (hsets _ (List.mem_of_getElem? (i := 0) rfl)))) (gotF (Cond.eq_ints ecs (Term.int_eval (0))) n5) p e ha hc hk s m _ below hf ((Spec.applies_iff_loose hf).mp happ).1 ⟨rfl, State.Warmed39.refl s, rfl⟩ trivial
  refine ⟨n, _, h1, h2, h3, hpost _ _ _ _ _ _ ⟨Cond.after_iff.mpr rfl, Cond.after_iff.mpr (eq_i res_at (Term.int_eval (1)) rfl), trivial⟩ ⟨hq.1, hq.2.1, (hq.2.2.sift fun y hy => Or.inr (N y hy)).mono (by decide) (by decide)⟩⟩
theorem main_1_1 : Claimed_1_1 := comes_1 fun _ _ _ _ _ _ h hF => ⟨h.1, hF⟩
theorem main_1_2 : Claimed_1_2 := comes_1 fun _ _ _ _ _ _ h hF => ⟨h.2.1, hF⟩
end Jvm.Pilot.@@N@@
namespace Jvm.Pilot.@@N@@
open Jvm Jvm.ClassFile Sem Op Lib Jvm.Free Jvm.Stand Jvm.Pilot.@@N@@.Jvm.D
/-! MADE BY PROGRAM (witnessworld.py) out of the Statement's table words and the real class files: 18 classes; the members and pool entries that the words name. The judged class is class 1, her method 1. -/
namespace start1
open Jvm.ClassFile
def u (s : String) : CpInfo := .utf8 (stringToUtf16 s)
/-- a pool by its gaps: so many unusable entries, then the entry; so many at the end -/
def gap : Nat → List CpInfo → List CpInfo
  | 0, r => r
  | n + 1, r => .unusable :: gap n r
def poolList (es : List (Nat × CpInfo)) (last : Nat) : List CpInfo := es.foldr (fun e r => gap e.1 (e.2 :: r)) (gap last [])
def pool (es : List (Nat × CpInfo)) (last : Nat) : Array CpInfo := ⟨poolList es last⟩
def fileOf (pool : Array CpInfo) (this : Nat) (attrs : Array Attribute := #[]) (ms : Array MethodInfo := #[]) (fl : Nat := 33) (sup : Nat := 0) (ifs : Array Nat := #[]) (fds : Array FieldInfo := #[]) : ClassFile where
  minorVersion := 0
  majorVersion := 65
  constantPool := pool
  accessFlags := fl
  thisClass := this
  superClass := sup
  interfaces := ifs
  fields := fds
  methods := ms
  attributes := attrs
def plain (name : String) (sup : Option ClassId) : Class where
  name := name
  kind := .ordinary
  loader := none
  accessFlags := 33
  super := sup
  interfaces := #[]
  cf := none
  fields := #[]
  methods := #[]
  instanceTypes := #[]
  staticTypes := #[]
  resolved := #[]
  callSites := []
  init := .initialized
  statics := none
  mirror := none

def pool0 : Array CpInfo := pool [(5, u "<init>"), (0, u "()V"), (1, .class_ 10), (1, u "java/lang/Object")] 113

def k0c0 : Code := { maxStack := 0, maxLocals := 1, code := object_method_1_code, exceptionTable := #[], attributes := #[] }
def k0m0 : Method := { name := "<init>", desc := "()V", sig := { parameters := [], returnType := none }, accessFlags := 1, code := some k0c0 }
/-- java/lang/Object -/
def k0 : Class := { plain "java/lang/Object" none with
  accessFlags := 33
  interfaces := #[]
  cf := some (fileOf pool0 8 #[] #[{ accessFlags := 1, nameIndex := 5, descriptorIndex := 6, attributes := #[] }] 33 0 #[] #[])
  fields := #[]
  methods := #[k0m0]
  instanceTypes := #[]
  staticTypes := #[]
  resolved := Array.replicate 124 none
  statics := none }

def pool1 : Array CpInfo := pool [(2, .class_ 4), (1, u "java/lang/Object"), (0, u "<init>"), (0, u "()V"), (0, .methodref 8 9), (0, .class_ 10), (0, .nameAndType 11 12), (0, u "java/lang/Math"), (0, u "max"), (0, u "(JJ)J"), (0, .methodref 8 14), (0, .nameAndType 15 12), (0, u "min"), (0, .methodref 17 18), (0, .class_ 19), (0, .nameAndType 20 21), (0, u "java/lang/String"), (0, u "valueOf"), (0, u "(C)Ljava/lang/String;"), (0, .methodref 23 24), (0, .class_ 25), (0, .nameAndType 26 27), (0, u "com/example/stowage/stowage/model/Require"), (0, u "notBelow"), (0, u "(JJLjava/lang/String;)J"), (0, .class_ 29), (0, u "com/example/stowage/stowage/model/RequireNotBelowPinLaw"), (2, u "law"), (0, u "(JJI)Z")] 3

def k1m0 : Method := { name := "<init>", desc := "()V", sig := { parameters := [], returnType := none }, accessFlags := 2, code := none }
def k1c1 : Code := { maxStack := 5, maxLocals := 10, code := code, exceptionTable := #[], attributes := #[] }
def k1m1 : Method := { name := "law", desc := "(JJI)Z", sig := { parameters := [.long, .long, .int], returnType := some .boolean }, accessFlags := 9, code := some k1c1 }
/-- com/example/stowage/stowage/model/RequireNotBelowPinLaw -/
def k1 : Class := { plain "com/example/stowage/stowage/model/RequireNotBelowPinLaw" (some 0) with
  accessFlags := 49
  interfaces := #[]
  cf := some (fileOf pool1 28 #[] #[{ accessFlags := 2, nameIndex := 5, descriptorIndex := 6, attributes := #[] }, { accessFlags := 9, nameIndex := 32, descriptorIndex := 33, attributes := #[] }] 49 2 #[] #[])
  fields := #[]
  methods := #[k1m0, k1m1]
  instanceTypes := #[]
  staticTypes := #[]
  resolved := Array.replicate 37 none
  statics := none }

def pool2 : Array CpInfo := pool [(1, .class_ 2), (0, u "java/lang/Math"), (1, .class_ 6), (1, u "java/lang/Object"), (0, u "<init>"), (0, u "()V"), (89, .class_ 100), (1, u "java/lang/Math$RandomNumberGeneratorHolder"), (20, u "(JJ)J"), (50, u "negativeZeroFloatBits"), (0, u "J"), (2, u "negativeZeroDoubleBits"), (21, u "max"), (2, u "min"), (43, u "$assertionsDisabled"), (0, u "Z"), (91, u "twoToTheDoubleScaleDown"), (0, u "D"), (4, u "twoToTheDoubleScaleUp"), (9, u "E"), (3, u "PI"), (2, u "TAU"), (2, u "DEGREES_TO_RADIANS"), (0, u "RADIANS_TO_DEGREES")] 94

def k2m0 : Method := { name := "<init>", desc := "()V", sig := { parameters := [], returnType := none }, accessFlags := 2, code := none }
def k2c1 : Code := { maxStack := 4, maxLocals := 4, code := jdk_29_method_66_code, exceptionTable := #[], attributes := #[] }
def k2m1 : Method := { name := "max", desc := "(JJ)J", sig := { parameters := [.long, .long], returnType := some .long }, accessFlags := 9, code := some k2c1 }
def k2c2 : Code := { maxStack := 4, maxLocals := 4, code := jdk_29_method_70_code, exceptionTable := #[], attributes := #[] }
def k2m2 : Method := { name := "min", desc := "(JJ)J", sig := { parameters := [.long, .long], returnType := some .long }, accessFlags := 9, code := some k2c2 }
/-- java/lang/Math -/
def k2 : Class := { plain "java/lang/Math" (some 0) with
  accessFlags := 49
  interfaces := #[]
  cf := some (fileOf pool2 1 #[.nestMembers #[98]] #[{ accessFlags := 2, nameIndex := 7, descriptorIndex := 8, attributes := #[] }, { accessFlags := 9, nameIndex := 198, descriptorIndex := 121, attributes := #[] }, { accessFlags := 9, nameIndex := 201, descriptorIndex := 121, attributes := #[] }] 49 4 #[] #[{ accessFlags := 25, nameIndex := 354, descriptorIndex := 339, attributes := #[] }, { accessFlags := 25, nameIndex := 358, descriptorIndex := 339, attributes := #[] }, { accessFlags := 25, nameIndex := 361, descriptorIndex := 339, attributes := #[] }, { accessFlags := 26, nameIndex := 364, descriptorIndex := 339, attributes := #[] }, { accessFlags := 26, nameIndex := 365, descriptorIndex := 339, attributes := #[] }, { accessFlags := 26, nameIndex := 172, descriptorIndex := 173, attributes := #[] }, { accessFlags := 26, nameIndex := 176, descriptorIndex := 173, attributes := #[] }, { accessFlags := 8, nameIndex := 344, descriptorIndex := 339, attributes := #[] }, { accessFlags := 8, nameIndex := 338, descriptorIndex := 339, attributes := #[] }, { accessFlags := 4120, nameIndex := 245, descriptorIndex := 246, attributes := #[] }])
  fields := #[{ name := "E", type := .double, accessFlags := 25, slot := 0, constantValue := 0 }, { name := "PI", type := .double, accessFlags := 25, slot := 1, constantValue := 0 }, { name := "TAU", type := .double, accessFlags := 25, slot := 2, constantValue := 0 }, { name := "DEGREES_TO_RADIANS", type := .double, accessFlags := 26, slot := 3, constantValue := 0 }, { name := "RADIANS_TO_DEGREES", type := .double, accessFlags := 26, slot := 4, constantValue := 0 }, { name := "negativeZeroFloatBits", type := .long, accessFlags := 26, slot := 5, constantValue := 0 }, { name := "negativeZeroDoubleBits", type := .long, accessFlags := 26, slot := 6, constantValue := 0 }, { name := "twoToTheDoubleScaleUp", type := .double, accessFlags := 8, slot := 7, constantValue := 0 }, { name := "twoToTheDoubleScaleDown", type := .double, accessFlags := 8, slot := 8, constantValue := 0 }, { name := "$assertionsDisabled", type := .boolean, accessFlags := 4120, slot := 9, constantValue := 0 }]
  methods := #[k2m0, k2m1, k2m2]
  instanceTypes := #[]
  staticTypes := #[.double, .double, .double, .double, .double, .long, .long, .double, .double, .boolean]
  resolved := Array.replicate 460 none
  statics := none }

def pool3 : Array CpInfo := pool [(1, .class_ 2), (0, u "java/io/Serializable"), (0, .class_ 4), (0, u "java/lang/Object")] 2

/-- java/io/Serializable -/
def k3 : Class := { plain "java/io/Serializable" (some 0) with
  accessFlags := 1537
  interfaces := #[]
  cf := some (fileOf pool3 1 #[] #[] 1537 3 #[] #[])
  fields := #[]
  methods := #[]
  instanceTypes := #[]
  staticTypes := #[]
  resolved := Array.replicate 7 none
  statics := none }

def pool4 : Array CpInfo := pool [(1, .class_ 2), (0, u "java/lang/Comparable"), (0, .class_ 4), (0, u "java/lang/Object")] 7

/-- java/lang/Comparable -/
def k4 : Class := { plain "java/lang/Comparable" (some 0) with
  accessFlags := 1537
  interfaces := #[]
  cf := some (fileOf pool4 1 #[] #[] 1537 3 #[] #[])
  fields := #[]
  methods := #[]
  instanceTypes := #[]
  staticTypes := #[]
  resolved := Array.replicate 12 none
  statics := none }

def pool5 : Array CpInfo := pool [(2, .class_ 4), (1, u "java/lang/CharSequence"), (42, .class_ 48), (0, u "java/lang/CharSequence$1CodePointIterator"), (10, .class_ 60), (0, u "java/lang/CharSequence$1CharIterator"), (5, .class_ 67), (0, u "java/lang/Object")] 63

/-- java/lang/CharSequence -/
def k5 : Class := { plain "java/lang/CharSequence" (some 0) with
  accessFlags := 1537
  interfaces := #[]
  cf := some (fileOf pool5 2 #[.nestMembers #[47, 59]] #[] 1537 66 #[] #[])
  fields := #[]
  methods := #[]
  instanceTypes := #[]
  staticTypes := #[]
  resolved := Array.replicate 131 none
  statics := none }

def pool6 : Array CpInfo := pool [(1, .class_ 2), (0, u "java/lang/constant/Constable"), (0, .class_ 4), (0, u "java/lang/Object")] 6

/-- java/lang/constant/Constable -/
def k6 : Class := { plain "java/lang/constant/Constable" (some 0) with
  accessFlags := 1537
  interfaces := #[]
  cf := some (fileOf pool6 1 #[] #[] 1537 3 #[] #[])
  fields := #[]
  methods := #[]
  instanceTypes := #[]
  staticTypes := #[]
  resolved := Array.replicate 11 none
  statics := none }

def pool7 : Array CpInfo := pool [(1, .class_ 2), (0, u "java/lang/constant/ConstantDesc"), (0, .class_ 4), (0, u "java/lang/Object")] 32

/-- java/lang/constant/ConstantDesc -/
def k7 : Class := { plain "java/lang/constant/ConstantDesc" (some 0) with
  accessFlags := 1537
  interfaces := #[]
  cf := some (fileOf pool7 1 #[] #[] 1537 3 #[] #[])
  fields := #[]
  methods := #[]
  instanceTypes := #[]
  staticTypes := #[]
  resolved := Array.replicate 37 none
  statics := none }

def pool8 : Array CpInfo := pool [(1, .methodref 2 3), (0, .class_ 4), (0, .nameAndType 5 6), (0, u "java/lang/Object"), (0, u "<init>"), (0, u "()V"), (2, .fieldref 10 11), (0, .class_ 12), (0, .nameAndType 13 14), (0, u "java/lang/String"), (0, u "value"), (0, u "[B"), (0, .fieldref 10 16), (0, .nameAndType 17 18), (0, u "coder"), (0, u "B"), (2, u "hash"), (0, u "I"), (2, u "hashIsZero"), (0, u "Z"), (11, .fieldref 10 39), (0, .nameAndType 40 26), (0, u "COMPACT_STRINGS"), (12, u "toBytes"), (53, .class_ 109), (1, u "java/lang/StringLatin1"), (99, .methodref 10 210), (0, .nameAndType 5 211), (0, u "([BB)V"), (157, u "(C)Z"), (205, .class_ 576), (0, u "java/lang/CharSequence"), (22, u "CASE_INSENSITIVE_ORDER"), (0, u "Ljava/util/Comparator;"), (181, u "valueOf"), (0, u "(C)Ljava/lang/String;"), (231, .methodref 107 1016), (0, .nameAndType 1017 369), (0, u "canEncode"), (0, .methodref 107 1019), (0, .nameAndType 53 1020), (0, u "(C)[B"), (80, u "serialPersistentFields"), (0, u "[Ljava/io/ObjectStreamField;"), (0, .class_ 1104), (0, u "java/lang/String$CaseInsensitiveComparator"), (1, .class_ 1107), (0, u "java/io/Serializable"), (0, .class_ 1109), (0, u "java/lang/Comparable"), (0, .class_ 1111), (0, u "java/lang/constant/Constable"), (0, .class_ 1113), (0, u "java/lang/constant/ConstantDesc"), (2, u "serialVersionUID"), (0, u "J"), (3, u "REPL"), (0, u "C"), (2, u "LATIN1"), (1, u "UTF16")] 323

def k8m0 : Method := { name := "<init>", desc := "()V", sig := { parameters := [], returnType := none }, accessFlags := 1, code := none }
def k8c1 : Code := { maxStack := 4, maxLocals := 1, code := jdk_42_method_139_code, exceptionTable := #[], attributes := #[] }
def k8m1 : Method := { name := "valueOf", desc := "(C)Ljava/lang/String;", sig := { parameters := [.char], returnType := some (.object "java/lang/String") }, accessFlags := 9, code := some k8c1 }
def k8c2 : Code := { maxStack := 2, maxLocals := 3, code := jdk_42_method_151_code, exceptionTable := #[], attributes := #[] }
def k8m2 : Method := { name := "<init>", desc := "([BB)V", sig := { parameters := [(.array .byte), .byte], returnType := none }, accessFlags := 0, code := some k8c2 }
/-- java/lang/String -/
def k8 : Class := { plain "java/lang/String" (some 0) with
  accessFlags := 49
  interfaces := #[3, 4, 5, 6, 7]
  cf := some (fileOf pool8 10 #[.nestMembers #[1103]] #[{ accessFlags := 1, nameIndex := 5, descriptorIndex := 6, attributes := #[] }, { accessFlags := 9, nameIndex := 782, descriptorIndex := 783, attributes := #[] }, { accessFlags := 0, nameIndex := 5, descriptorIndex := 211, attributes := #[] }] 49 2 #[1106, 1108, 575, 1110, 1112] #[{ accessFlags := 18, nameIndex := 13, descriptorIndex := 14, attributes := #[] }, { accessFlags := 18, nameIndex := 17, descriptorIndex := 18, attributes := #[] }, { accessFlags := 2, nameIndex := 21, descriptorIndex := 22, attributes := #[] }, { accessFlags := 2, nameIndex := 25, descriptorIndex := 26, attributes := #[] }, { accessFlags := 26, nameIndex := 1116, descriptorIndex := 1117, attributes := #[] }, { accessFlags := 24, nameIndex := 40, descriptorIndex := 26, attributes := #[] }, { accessFlags := 26, nameIndex := 1101, descriptorIndex := 1102, attributes := #[] }, { accessFlags := 26, nameIndex := 1121, descriptorIndex := 1122, attributes := #[] }, { accessFlags := 25, nameIndex := 599, descriptorIndex := 600, attributes := #[] }, { accessFlags := 24, nameIndex := 1125, descriptorIndex := 18, attributes := #[] }, { accessFlags := 24, nameIndex := 1127, descriptorIndex := 18, attributes := #[] }])
  fields := #[{ name := "value", type := (.array .byte), accessFlags := 18, slot := 0, constantValue := 0 }, { name := "coder", type := .byte, accessFlags := 18, slot := 1, constantValue := 0 }, { name := "hash", type := .int, accessFlags := 2, slot := 2, constantValue := 0 }, { name := "hashIsZero", type := .boolean, accessFlags := 2, slot := 3, constantValue := 0 }, { name := "serialVersionUID", type := .long, accessFlags := 26, slot := 0, constantValue := 0 }, { name := "COMPACT_STRINGS", type := .boolean, accessFlags := 24, slot := 1, constantValue := 0 }, { name := "serialPersistentFields", type := (.array (.object "java/io/ObjectStreamField")), accessFlags := 26, slot := 2, constantValue := 0 }, { name := "REPL", type := .char, accessFlags := 26, slot := 3, constantValue := 0 }, { name := "CASE_INSENSITIVE_ORDER", type := (.object "java/util/Comparator"), accessFlags := 25, slot := 4, constantValue := 0 }, { name := "LATIN1", type := .byte, accessFlags := 24, slot := 5, constantValue := 0 }, { name := "UTF16", type := .byte, accessFlags := 24, slot := 6, constantValue := 0 }]
  methods := #[k8m0, k8m1, k8m2]
  instanceTypes := #[(.array .byte), .byte, .int, .boolean]
  staticTypes := #[.long, .boolean, (.array (.object "java/io/ObjectStreamField")), .char, (.object "java/util/Comparator"), .byte, .byte]
  resolved := Array.replicate 1451 none
  statics := some 0 }

def pool9 : Array CpInfo := pool [(4, .class_ 6), (1, u "java/lang/Object"), (0, u "<init>"), (0, u "()V"), (5, .class_ 16), (1, u "java/lang/StringLatin1"), (73, u "canEncode"), (14, u "(C)Z"), (15, u "$assertionsDisabled"), (0, u "Z"), (98, .class_ 223), (1, u "java/lang/StringLatin1$LinesSpliterator"), (156, u "toBytes"), (1, u "(C)[B"), (7, .class_ 391), (0, u "java/lang/StringLatin1$CharsSpliterator")] 3

def k9m0 : Method := { name := "<init>", desc := "()V", sig := { parameters := [], returnType := none }, accessFlags := 0, code := none }
def k9c1 : Code := { maxStack := 2, maxLocals := 1, code := jdk_43_method_3_code, exceptionTable := #[], attributes := #[] }
def k9m1 : Method := { name := "canEncode", desc := "(C)Z", sig := { parameters := [.char], returnType := some .boolean }, accessFlags := 9, code := some k9c1 }
def k9c2 : Code := { maxStack := 4, maxLocals := 1, code := jdk_43_method_46_code, exceptionTable := #[], attributes := #[] }
def k9m2 : Method := { name := "toBytes", desc := "(C)[B", sig := { parameters := [.char], returnType := some (.array .byte) }, accessFlags := 9, code := some k9c2 }
/-- java/lang/StringLatin1 -/
def k9 : Class := { plain "java/lang/StringLatin1" (some 0) with
  accessFlags := 48
  interfaces := #[]
  cf := some (fileOf pool9 14 #[.nestMembers #[390, 221]] #[{ accessFlags := 0, nameIndex := 7, descriptorIndex := 8, attributes := #[] }, { accessFlags := 9, nameIndex := 90, descriptorIndex := 105, attributes := #[] }, { accessFlags := 9, nameIndex := 380, descriptorIndex := 382, attributes := #[] }] 48 4 #[] #[{ accessFlags := 4120, nameIndex := 121, descriptorIndex := 122, attributes := #[] }])
  fields := #[{ name := "$assertionsDisabled", type := .boolean, accessFlags := 4120, slot := 0, constantValue := 0 }]
  methods := #[k9m0, k9m1, k9m2]
  instanceTypes := #[]
  staticTypes := #[.boolean]
  resolved := Array.replicate 395 none
  statics := none }

def pool10 : Array CpInfo := pool [(2, .class_ 4), (1, u "java/lang/Object"), (0, u "<init>"), (0, u "()V"), (60, .class_ 69), (1, u "com/example/stowage/stowage/model/Require"), (36, u "notBelow"), (0, u "(JJLjava/lang/String;)J")] 52

def k10m0 : Method := { name := "<init>", desc := "()V", sig := { parameters := [], returnType := none }, accessFlags := 2, code := none }
def k10c1 : Code := { maxStack := 7, maxLocals := 5, code := prog_15_method_6_code, exceptionTable := #[], attributes := #[] }
def k10m1 : Method := { name := "notBelow", desc := "(JJLjava/lang/String;)J", sig := { parameters := [.long, .long, (.object "java/lang/String")], returnType := some .long }, accessFlags := 8, code := some k10c1 }
/-- com/example/stowage/stowage/model/Require -/
def k10 : Class := { plain "com/example/stowage/stowage/model/Require" (some 0) with
  accessFlags := 32
  interfaces := #[]
  cf := some (fileOf pool10 67 #[] #[{ accessFlags := 2, nameIndex := 5, descriptorIndex := 6, attributes := #[] }, { accessFlags := 8, nameIndex := 106, descriptorIndex := 107, attributes := #[] }] 32 2 #[] #[])
  fields := #[]
  methods := #[k10m0, k10m1]
  instanceTypes := #[]
  staticTypes := #[]
  resolved := Array.replicate 160 none
  statics := none }

def pool11 : Array CpInfo := pool [(2, .class_ 4), (1, u "java/lang/Object"), (0, u "<init>"), (0, u "()V"), (17, .class_ 26), (1, u "jdk/internal/util/Preconditions"), (28, .class_ 56), (0, u "jdk/internal/util/Preconditions$4"), (57, .class_ 115), (0, u "jdk/internal/util/Preconditions$1"), (7, u "SIOOBE_FORMATTER"), (0, u "Ljava/util/function/BiFunction;"), (0, .class_ 126), (0, u "jdk/internal/util/Preconditions$2"), (3, u "AIOOBE_FORMATTER"), (0, .class_ 132), (0, u "jdk/internal/util/Preconditions$3"), (3, u "IOOBE_FORMATTER")] 57

def k11m0 : Method := { name := "<init>", desc := "()V", sig := { parameters := [], returnType := none }, accessFlags := 1, code := none }
/-- jdk/internal/util/Preconditions -/
def k11 : Class := { plain "jdk/internal/util/Preconditions" (some 0) with
  accessFlags := 33
  interfaces := #[]
  cf := some (fileOf pool11 24 #[.nestMembers #[55, 131, 125, 114]] #[{ accessFlags := 1, nameIndex := 5, descriptorIndex := 6, attributes := #[] }] 33 2 #[] #[{ accessFlags := 25, nameIndex := 123, descriptorIndex := 124, attributes := #[] }, { accessFlags := 25, nameIndex := 130, descriptorIndex := 124, attributes := #[] }, { accessFlags := 25, nameIndex := 136, descriptorIndex := 124, attributes := #[] }])
  fields := #[{ name := "SIOOBE_FORMATTER", type := (.object "java/util/function/BiFunction"), accessFlags := 25, slot := 0, constantValue := 0 }, { name := "AIOOBE_FORMATTER", type := (.object "java/util/function/BiFunction"), accessFlags := 25, slot := 1, constantValue := 0 }, { name := "IOOBE_FORMATTER", type := (.object "java/util/function/BiFunction"), accessFlags := 25, slot := 2, constantValue := 0 }]
  methods := #[k11m0]
  instanceTypes := #[]
  staticTypes := #[(.object "java/util/function/BiFunction"), (.object "java/util/function/BiFunction"), (.object "java/util/function/BiFunction")]
  resolved := Array.replicate 194 none
  statics := some 1 }

def pool12 : Array CpInfo := pool [(9, u "<init>"), (6, .class_ 18), (1, u "java/lang/Object"), (0, u "()V"), (1, .class_ 23), (1, u "jdk/internal/util/ArraysSupport"), (0, u "LOG2_ARRAY_LONG_INDEX_SCALE"), (0, u "I"), (2, u "U"), (0, u "Ljdk/internal/misc/Unsafe;"), (8, u "BIG_ENDIAN"), (0, u "Z"), (8, u "LOG2_BYTE_BIT_SIZE"), (4, u "LOG2_ARRAY_INT_INDEX_SCALE"), (54, u "JLA"), (0, u "Ljdk/internal/access/JavaLangAccess;"), (11, u "LOG2_ARRAY_BOOLEAN_INDEX_SCALE"), (9, u "LOG2_ARRAY_BYTE_INDEX_SCALE"), (5, u "LOG2_ARRAY_CHAR_INDEX_SCALE"), (5, u "LOG2_ARRAY_SHORT_INDEX_SCALE"), (18, u "LOG2_ARRAY_FLOAT_INDEX_SCALE"), (24, u "LOG2_ARRAY_DOUBLE_INDEX_SCALE"), (89, u "T_BOOLEAN"), (2, u "T_CHAR"), (1, u "T_FLOAT"), (1, u "T_DOUBLE"), (1, u "T_BYTE"), (1, u "T_SHORT"), (1, u "T_INT"), (1, u "T_LONG"), (1, u "SOFT_MAX_ARRAY_LENGTH")] 83

def k12m0 : Method := { name := "<init>", desc := "()V", sig := { parameters := [], returnType := none }, accessFlags := 2, code := none }
/-- jdk/internal/util/ArraysSupport -/
def k12 : Class := { plain "jdk/internal/util/ArraysSupport" (some 0) with
  accessFlags := 33
  interfaces := #[]
  cf := some (fileOf pool12 21 #[] #[{ accessFlags := 2, nameIndex := 9, descriptorIndex := 19, attributes := #[] }] 33 16 #[] #[{ accessFlags := 24, nameIndex := 28, descriptorIndex := 29, attributes := #[] }, { accessFlags := 26, nameIndex := 38, descriptorIndex := 39, attributes := #[] }, { accessFlags := 25, nameIndex := 121, descriptorIndex := 25, attributes := #[] }, { accessFlags := 25, nameIndex := 131, descriptorIndex := 25, attributes := #[] }, { accessFlags := 25, nameIndex := 137, descriptorIndex := 25, attributes := #[] }, { accessFlags := 25, nameIndex := 143, descriptorIndex := 25, attributes := #[] }, { accessFlags := 25, nameIndex := 53, descriptorIndex := 25, attributes := #[] }, { accessFlags := 25, nameIndex := 24, descriptorIndex := 25, attributes := #[] }, { accessFlags := 25, nameIndex := 162, descriptorIndex := 25, attributes := #[] }, { accessFlags := 25, nameIndex := 187, descriptorIndex := 25, attributes := #[] }, { accessFlags := 26, nameIndex := 48, descriptorIndex := 25, attributes := #[] }, { accessFlags := 25, nameIndex := 277, descriptorIndex := 25, attributes := #[] }, { accessFlags := 25, nameIndex := 280, descriptorIndex := 25, attributes := #[] }, { accessFlags := 25, nameIndex := 282, descriptorIndex := 25, attributes := #[] }, { accessFlags := 25, nameIndex := 284, descriptorIndex := 25, attributes := #[] }, { accessFlags := 25, nameIndex := 286, descriptorIndex := 25, attributes := #[] }, { accessFlags := 25, nameIndex := 288, descriptorIndex := 25, attributes := #[] }, { accessFlags := 25, nameIndex := 290, descriptorIndex := 25, attributes := #[] }, { accessFlags := 25, nameIndex := 292, descriptorIndex := 25, attributes := #[] }, { accessFlags := 26, nameIndex := 108, descriptorIndex := 109, attributes := #[] }, { accessFlags := 25, nameIndex := 294, descriptorIndex := 25, attributes := #[] }])
  fields := #[{ name := "U", type := (.object "jdk/internal/misc/Unsafe"), accessFlags := 24, slot := 0, constantValue := 0 }, { name := "BIG_ENDIAN", type := .boolean, accessFlags := 26, slot := 1, constantValue := 0 }, { name := "LOG2_ARRAY_BOOLEAN_INDEX_SCALE", type := .int, accessFlags := 25, slot := 2, constantValue := 0 }, { name := "LOG2_ARRAY_BYTE_INDEX_SCALE", type := .int, accessFlags := 25, slot := 3, constantValue := 0 }, { name := "LOG2_ARRAY_CHAR_INDEX_SCALE", type := .int, accessFlags := 25, slot := 4, constantValue := 0 }, { name := "LOG2_ARRAY_SHORT_INDEX_SCALE", type := .int, accessFlags := 25, slot := 5, constantValue := 0 }, { name := "LOG2_ARRAY_INT_INDEX_SCALE", type := .int, accessFlags := 25, slot := 6, constantValue := 0 }, { name := "LOG2_ARRAY_LONG_INDEX_SCALE", type := .int, accessFlags := 25, slot := 7, constantValue := 0 }, { name := "LOG2_ARRAY_FLOAT_INDEX_SCALE", type := .int, accessFlags := 25, slot := 8, constantValue := 0 }, { name := "LOG2_ARRAY_DOUBLE_INDEX_SCALE", type := .int, accessFlags := 25, slot := 9, constantValue := 0 }, { name := "LOG2_BYTE_BIT_SIZE", type := .int, accessFlags := 26, slot := 10, constantValue := 0 }, { name := "T_BOOLEAN", type := .int, accessFlags := 25, slot := 11, constantValue := 0 }, { name := "T_CHAR", type := .int, accessFlags := 25, slot := 12, constantValue := 0 }, { name := "T_FLOAT", type := .int, accessFlags := 25, slot := 13, constantValue := 0 }, { name := "T_DOUBLE", type := .int, accessFlags := 25, slot := 14, constantValue := 0 }, { name := "T_BYTE", type := .int, accessFlags := 25, slot := 15, constantValue := 0 }, { name := "T_SHORT", type := .int, accessFlags := 25, slot := 16, constantValue := 0 }, { name := "T_INT", type := .int, accessFlags := 25, slot := 17, constantValue := 0 }, { name := "T_LONG", type := .int, accessFlags := 25, slot := 18, constantValue := 0 }, { name := "JLA", type := (.object "jdk/internal/access/JavaLangAccess"), accessFlags := 26, slot := 19, constantValue := 0 }, { name := "SOFT_MAX_ARRAY_LENGTH", type := .int, accessFlags := 25, slot := 20, constantValue := 0 }]
  methods := #[k12m0]
  instanceTypes := #[]
  staticTypes := #[(.object "jdk/internal/misc/Unsafe"), .boolean, .int, .int, .int, .int, .int, .int, .int, .int, .int, .int, .int, .int, .int, .int, .int, .int, .int, (.object "jdk/internal/access/JavaLangAccess"), .int]
  resolved := Array.replicate 378 none
  statics := none }

def pool13 : Array CpInfo := pool [(1, u "java/lang/Cloneable"), (0, .class_ 1), (0, u "java/lang/Object"), (0, .class_ 3)] 3

/-- java/lang/Cloneable -/
def k13 : Class := { plain "java/lang/Cloneable" (some 0) with
  accessFlags := 1537
  interfaces := #[]
  cf := some (fileOf pool13 2 #[] #[] 1537 4 #[] #[])
  fields := #[]
  methods := #[]
  instanceTypes := #[]
  staticTypes := #[]
  resolved := Array.replicate 8 none
  statics := none }

/-- the primitive byte -/
def k14 : Class := { plain "byte" none with kind := .primitive 'B', accessFlags := 0x411 }
/-- [B -/
def k15 : Class := { plain "[B" (some 0) with kind := .array 14 .byte, interfaces := #[13, 3], accessFlags := 1041 }

/-- the primitive int -/
def k16 : Class := { plain "int" none with kind := .primitive 'I', accessFlags := 0x411 }
/-- [I -/
def k17 : Class := { plain "[I" (some 0) with kind := .array 16 .int, interfaces := #[13, 3], accessFlags := 1041 }

def heap : Heap := #[{ cls := 8, slots := #[.long 0, .int 1, .null, .int 0, .null, .int 0, .int 0], vm := .statics 8 },
  { cls := 11, slots := #[.null, .null, .null], vm := .statics 11 }]
def classes : Array Class := #[k0, k1, k2, k3, k4, k5, k6, k7, k8, k9, k10, k11, k12, k13, k14, k15, k16, k17]
def interned : List (Array UInt16 × Addr) := []
def slotsUsed : Nat := 10
def theMethod : MethodId := ⟨1, 1⟩
def args0 : Array Value := #[.long 5, .long 77, .int 3]
def aboutOver (below : List Frame) : State where
  vm := { classes := classes, interned := interned.toArray }
  heap := heap
  slotsUsed := slotsUsed
  threads := #[{ frames := .invoking theMethod args0 :: below }]
def below0 : List Frame := [.native { method := ⟨0, 0⟩, args := #[] }]
def about1 : State := aboutOver below0
def p0 : Program := .bare "" "" ""
def e0 : Env := launch0.env 0 0 0
theorem w_frames : about1.frames = Frame.invoking theMethod args0 :: below0 := rfl
set_option maxRecDepth 65536 in
theorem w_args : argsFit about1.vm theMethod args0 = true := by decide +kernel
set_option maxRecDepth 65536 in
theorem w_heap : heapFits about1 = true := by decide +kernel
set_option maxRecDepth 65536 in
theorem w_runnable : about1.curStatus? = some .runnable := by decide +kernel
set_option maxRecDepth 65536 in
theorem w_alone : about1.alone = true := by decide +kernel
set_option maxRecDepth 65536 in
theorem w_named : about1.methodNamed? x = some theMethod := by decide +kernel
set_option maxRecDepth 65536 in
theorem w_hears : about1.hears theMethod below0 = true := by decide +kernel
set_option maxRecDepth 65536 in
theorem w_ripe : about1.ripe theMethod args0 below0 = true := by decide +kernel
theorem w_running : about1.status = .running := rfl
set_option maxRecDepth 65536 in
theorem w_room : about1.hasRoom e0.platform room_1 = true :=
  launch0.hasRoom_least _ room_1 (by decide +kernel) (by decide +kernel) (by decide +kernel) (by decide +kernel) (by decide +kernel) (by decide +kernel)
theorem allAtoms_all (ts : List Jvm.Cond) (a : Array Jvm.Value) (st : Jvm.State) : (allAtoms ts).before a st = ts.all (fun c => c.before a st) := by
  induction ts with
  | nil => rfl
  | cons c t ih =>
    show (Jvm.Cond.and c (allAtoms t)).before a st = _
    rw [Jvm.Cond.before_and, ih, List.all_cons]
def words1 : List Jvm.Cond := Jvm.Cond.code x code maxLocals ret :: tables_1
/-- a 'code' word, met by the world's own term for the bytes: nothing is compared byte by byte -/
theorem code_word {y : MethodName} {bytes : ByteArray} {mx : Nat} {rt : Option FieldType} {a : Array Value} {s : State} {m : MethodId} {meth : Method} {c : Code} (h1 : s.methodNamed? y = some m) (h2 : s.vm.method? m = some meth) (h3 : meth.code = some c) (h4 : c.code = bytes)
    (h5 : (c.maxLocals == mx && c.exceptionTable.isEmpty && decide (c.maxStack ≤ mostOperands) && decide (meth.sig.returnType = rt) && !meth.locks && decide (parseMethodDescriptor y.desc = some meth.sig)) = true) : (Jvm.Cond.code y bytes mx rt).before a s = true := by
  simp only [Bool.and_eq_true, beq_iff_eq, Bool.not_eq_true', decide_eq_true_eq] at h5
  obtain ⟨⟨⟨⟨⟨g1, g2⟩, g3⟩, g4⟩, g5⟩, g6⟩ := h5
  simp [Cond.before, Cond.holds, Cond.value, h1, h2, h3, h4, g1, g2, g3, g4, g5, g6]
def isCode : Jvm.Cond → Bool
  | .code _ _ _ _ => true
  | _ => false
theorem all_split {L : List Jvm.Cond} {P : Jvm.Cond → Bool} (h1 : L.all (fun c => isCode c || P c) = true) (h2 : ∀ c ∈ L.filter isCode, P c = true) : L.all P = true := by
  refine List.all_eq_true.mpr fun c hc => ?_
  have h := List.all_eq_true.mp h1 c hc
  rcases Bool.eq_false_or_eq_true (isCode c) with hi | hi
  · exact h2 c (List.mem_filter.mpr ⟨hc, hi⟩)
  · simpa [hi] using h
set_option maxRecDepth 65536 in
theorem w_c0 : (Jvm.Cond.code x code maxLocals ret).before args0 about1 = true := code_word (m := ⟨1, 1⟩) (meth := k1m1) (c := k1c1) (by decide +kernel) rfl rfl rfl (by decide +kernel)
set_option maxRecDepth 65536 in
theorem w_c1 : (Jvm.Cond.code ({ cls := "java/lang/Math", name := "max", desc := "(JJ)J" } : Jvm.MethodName) jdk_29_method_66_code (4 : Nat) (Option.some Jvm.ClassFile.FieldType.long)).before args0 about1 = true := code_word (m := ⟨2, 1⟩) (meth := k2m1) (c := k2c1) (by decide +kernel) rfl rfl rfl (by decide +kernel)
set_option maxRecDepth 65536 in
theorem w_c2 : (Jvm.Cond.code ({ cls := "java/lang/Math", name := "min", desc := "(JJ)J" } : Jvm.MethodName) jdk_29_method_70_code (4 : Nat) (Option.some Jvm.ClassFile.FieldType.long)).before args0 about1 = true := code_word (m := ⟨2, 2⟩) (meth := k2m2) (c := k2c2) (by decide +kernel) rfl rfl rfl (by decide +kernel)
set_option maxRecDepth 65536 in
theorem w_c3 : (Jvm.Cond.code ({ cls := "java/lang/String", name := "valueOf", desc := "(C)Ljava/lang/String;" } : Jvm.MethodName) jdk_42_method_139_code (1 : Nat) (Option.some (Jvm.ClassFile.FieldType.object "java/lang/String"))).before args0 about1 = true := code_word (m := ⟨8, 1⟩) (meth := k8m1) (c := k8c1) (by decide +kernel) rfl rfl rfl (by decide +kernel)
set_option maxRecDepth 65536 in
theorem w_c4 : (Jvm.Cond.code ({ cls := "java/lang/StringLatin1", name := "canEncode", desc := "(C)Z" } : Jvm.MethodName) jdk_43_method_3_code (1 : Nat) (Option.some Jvm.ClassFile.FieldType.boolean)).before args0 about1 = true := code_word (m := ⟨9, 1⟩) (meth := k9m1) (c := k9c1) (by decide +kernel) rfl rfl rfl (by decide +kernel)
set_option maxRecDepth 65536 in
theorem w_c5 : (Jvm.Cond.code ({ cls := "java/lang/StringLatin1", name := "toBytes", desc := "(C)[B" } : Jvm.MethodName) jdk_43_method_46_code (1 : Nat) (Option.some (Jvm.ClassFile.FieldType.array Jvm.ClassFile.FieldType.byte))).before args0 about1 = true := code_word (m := ⟨9, 2⟩) (meth := k9m2) (c := k9c2) (by decide +kernel) rfl rfl rfl (by decide +kernel)
set_option maxRecDepth 65536 in
theorem w_c6 : (Jvm.Cond.code ({ cls := "java/lang/String", name := "<init>", desc := "([BB)V" } : Jvm.MethodName) jdk_42_method_151_code (3 : Nat) (Option.none : Option Jvm.ClassFile.FieldType)).before args0 about1 = true := code_word (m := ⟨8, 2⟩) (meth := k8m2) (c := k8c2) (by decide +kernel) rfl rfl rfl (by decide +kernel)
set_option maxRecDepth 65536 in
theorem w_c7 : (Jvm.Cond.code ({ cls := "java/lang/Object", name := "<init>", desc := "()V" } : Jvm.MethodName) object_method_1_code (1 : Nat) (Option.none : Option Jvm.ClassFile.FieldType)).before args0 about1 = true := code_word (m := ⟨0, 0⟩) (meth := k0m0) (c := k0c0) (by decide +kernel) rfl rfl rfl (by decide +kernel)
set_option maxRecDepth 65536 in
theorem w_c8 : (Jvm.Cond.code ({ cls := "com/example/stowage/stowage/model/Require", name := "notBelow", desc := "(JJLjava/lang/String;)J" } : Jvm.MethodName) prog_15_method_6_code (5 : Nat) (Option.some Jvm.ClassFile.FieldType.long)).before args0 about1 = true := code_word (m := ⟨10, 1⟩) (meth := k10m1) (c := k10c1) (by decide +kernel) rfl rfl rfl (by decide +kernel)
def codes1 : List Jvm.Cond := [Jvm.Cond.code x code maxLocals ret, Jvm.Cond.code ({ cls := "java/lang/Math", name := "max", desc := "(JJ)J" } : Jvm.MethodName) jdk_29_method_66_code (4 : Nat) (Option.some Jvm.ClassFile.FieldType.long), Jvm.Cond.code ({ cls := "java/lang/Math", name := "min", desc := "(JJ)J" } : Jvm.MethodName) jdk_29_method_70_code (4 : Nat) (Option.some Jvm.ClassFile.FieldType.long), Jvm.Cond.code ({ cls := "java/lang/String", name := "valueOf", desc := "(C)Ljava/lang/String;" } : Jvm.MethodName) jdk_42_method_139_code (1 : Nat) (Option.some (Jvm.ClassFile.FieldType.object "java/lang/String")), Jvm.Cond.code ({ cls := "java/lang/StringLatin1", name := "canEncode", desc := "(C)Z" } : Jvm.MethodName) jdk_43_method_3_code (1 : Nat) (Option.some Jvm.ClassFile.FieldType.boolean), Jvm.Cond.code ({ cls := "java/lang/StringLatin1", name := "toBytes", desc := "(C)[B" } : Jvm.MethodName) jdk_43_method_46_code (1 : Nat) (Option.some (Jvm.ClassFile.FieldType.array Jvm.ClassFile.FieldType.byte)), Jvm.Cond.code ({ cls := "java/lang/String", name := "<init>", desc := "([BB)V" } : Jvm.MethodName) jdk_42_method_151_code (3 : Nat) (Option.none : Option Jvm.ClassFile.FieldType), Jvm.Cond.code ({ cls := "java/lang/Object", name := "<init>", desc := "()V" } : Jvm.MethodName) object_method_1_code (1 : Nat) (Option.none : Option Jvm.ClassFile.FieldType), Jvm.Cond.code ({ cls := "com/example/stowage/stowage/model/Require", name := "notBelow", desc := "(JJLjava/lang/String;)J" } : Jvm.MethodName) prog_15_method_6_code (5 : Nat) (Option.some Jvm.ClassFile.FieldType.long)]
set_option maxRecDepth 65536 in
theorem codes_eq : words1.filter isCode = codes1 := rfl
theorem w_codes : ∀ c ∈ words1.filter isCode, c.before args0 about1 = true := by
  rw [codes_eq]
  intro c hc
  simp only [codes1, List.mem_cons, List.not_mem_nil, or_false] at hc
  rcases hc with rfl | rfl | rfl | rfl | rfl | rfl | rfl | rfl | rfl
  · exact w_c0
  · exact w_c1
  · exact w_c2
  · exact w_c3
  · exact w_c4
  · exact w_c5
  · exact w_c6
  · exact w_c7
  · exact w_c8
set_option maxRecDepth 65536 in
theorem w_t1 : (words1.take 24).all (fun c => isCode c || c.before args0 about1) = true := by decide +kernel
set_option maxRecDepth 65536 in
theorem w_t2 : (words1.drop 24).all (fun c => isCode c || c.before args0 about1) = true := by decide +kernel
theorem w_tables : (allAtoms (Jvm.Cond.code x code maxLocals ret :: tables_1)).before args0 about1 = true := by
  rw [allAtoms_all]
  show words1.all (fun c => c.before args0 about1) = true
  refine all_split ?_ w_codes
  rw [← List.take_append_drop 24 words1, List.all_append, w_t1, w_t2]
  rfl
set_option maxRecDepth 65536 in
theorem w_rest : rest_1_c.before args0 about1 = true := by decide +kernel
set_option maxRecDepth 65536 in
theorem w_case : (Jvm.Cond.and given_1 narrow_1).before args0 about1 = true := by decide +kernel
theorem w_applies : (headSpec (Jvm.Cond.code x code maxLocals ret :: tables_1) room_1).applies x e0.platform about1 = true :=
  (Spec.applies_iff w_frames).mpr ⟨w_running, w_runnable, w_alone, w_named, w_hears, w_ripe, w_room, w_tables⟩
theorem atStart : AtStart classFile x code maxLocals ret World_1 tables_1 room_1 Calls_1 rest_1 Pre_1 launch0 p0 e0 about1 theMethod args0 below0 :=
  ⟨lists_1, trivial, launch0.admits_env _ _ _, launch0.least_env, fairChoices_fair.cas, fairChoices_fair.clock, w_frames, w_args, w_heap, w_applies, trivial, w_rest, w_case⟩
end start1
theorem witness_1 : WitnessClaimed_1 := ⟨start1.p0, start1.e0, start1.about1, start1.theMethod, start1.args0, start1.below0, start1.atStart⟩
end Jvm.Pilot.@@N@@
