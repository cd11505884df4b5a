import JvmDerived
import JvmDerived.Pilot.@@N@@Statement
import JvmDerived.Pilot.@@N@@Code
set_option linter.unusedVariables false
set_option linter.unusedSimpArgs false
namespace Jvm.RoadKit
open Sem ClassFile Op Lib Jvm.Stand Jvm.Free Jvm.LawKit
section New
variable {p : Program} {l : Launch} {e : Env} {R : Room} {s : State} {m : MethodId} {args : Array Value} {below : List Frame} {meth : Method} {c : Code} {T : State} {locs : List Loc} {cells slots : Nat}
theorem retI (X : Stand p l e R s m args below meth c T locs cells slots) (hx : p.tables.exec = Jvm.exec) {pc : Nat} {Ls : Array Slot} {z : Int32} {rest : List Value} (hret : meth.sig.returnType = some .int) (hd : decode c.code pc = .ok (.ireturn, 1)) {fs : List Frame}
    (hl : ∀ (f : JFrame) (acts : List Action), f.method = m → f.locked = none → f.entered = [] → (doReturn e (T.setTop f) acts (some (.int z))).1 = T.setFrames fs) : Steps p.tables e below (T.setTop (mkF m pc Ls (.int z :: rest))) (T.setFrames fs) := by
  have hm' : T.vm.method? m = some meth := X.method'
  have hn : narrow .int (.int z) = .int z := rfl
  show Steps p.tables e below (T.setTop { method := m, pc := pc, locals := Ls, stack := _ :: rest, locked := none }) _
  jvm_step X.here [X.here.top, hx, hd, hm', hret, hn]
  first | (intro acts; rw [hl _ acts rfl rfl rfl]) | rw [hl _ _ rfl rfl rfl]
  exact Steps.refl _
end New
end Jvm.RoadKit
namespace Jvm.Pilot.@@N@@
open Jvm Jvm.ClassFile Sem Op Lib Jvm.Free Jvm.Stand Jvm.LawKit Jvm.RoadKit Bundle Jvm.Pilot.@@N@@.Jvm.D
section OwnKit
/-- the rest of a body ends well: from the state U on it comes to its end, what it returns and leaves is as Q says -/
def Done (p : Program) (e : Env) (below : List Frame) (s : State) (Q : Option Value → Heap → List Loc → Prop) (C S : Nat) (U : State) : Prop :=
  ∃ s₂ o, Steps p.tables e below U s₂ ∧ s₂.status = .running ∧ Ended s₂ below o ∧ ∃ v L, o = .returned v ∧ Q v s₂.heap L ∧ FrameEnd s o s₂ L C S
variable {p : Program} {l : Launch} {e : Env} {R : Room} {s : State} {m : MethodId} {args : Array Value} {below : List Frame} {meth : Method} {c : Code} {T U U' : State} {locs : List Loc} {cells slots C S : Nat} {Q : Option Value → Heap → List Loc → Prop}
theorem Done.step (h : ∀ t, Steps p.tables e below U' t → Steps p.tables e below U t) (d : Done p e below s Q C S U') : Done p e below s Q C S U := by
  obtain ⟨s₂, o, h1, r⟩ := d
  exact ⟨s₂, o, h _ h1, r⟩
theorem Done.far (h : Steps p.tables e below U U') (d : Done p e below s Q C S U') : Done p e below s Q C S U := by
  obtain ⟨s₂, o, h1, r⟩ := d
  exact ⟨s₂, o, h.trans h1, r⟩
theorem Done.mono {Q' : Option Value → Heap → List Loc → Prop} (d : Done p e below s Q C S U) (h : ∀ v h L, Q v h L → Q' v h L) : Done p e below s Q' C S U := by
  obtain ⟨s₂, o, h1, h2, h3, v, L, h4, h5, h6⟩ := d
  exact ⟨s₂, o, h1, h2, h3, v, L, h4, h _ _ _ h5, h6⟩
theorem Done.int (X : Stand p l e R s m args below meth c T locs cells slots) (hx : p.tables.exec = Jvm.exec) (hlk : meth.locks = false) (hret : meth.sig.returnType = some .int) {pc : Nat} {Ls : Array Slot} {z : Int32} {rest : List Value} (hd : decode c.code pc = .ok (.ireturn, 1)) (hc : cells ≤ C) (hs : slots ≤ S)
    (hq : Q (some (.int z)) T.heap locs) : Done p e below s Q C S (T.setTop (mkF m pc Ls (.int z :: rest))) := by
  obtain ⟨fs, hr, hrun, hended, hW, hsame⟩ := X.leave (v := some (.int z)) (fun h => by rw [hret] at h; cases h)
  exact ⟨_, _, retI X hx hret hd hr, hrun, hended, _, _, rfl, hq, ⟨_, rfl⟩, hW, hsame.mono hc hs⟩
theorem Done.narr (X : Stand p l e R s m args below meth c T locs cells slots) (hx : p.tables.exec = Jvm.exec) (hlk : meth.locks = false) {t : FieldType} (hret : meth.sig.returnType = some t) (ht : t = .boolean ∨ t = .byte ∨ t = .char ∨ t = .short) {pc : Nat} {Ls : Array Slot} {z : Int32} {rest : List Value} (hd : decode c.code pc = .ok (.ireturn, 1)) (hc : cells ≤ C) (hs : slots ≤ S)
    (hq : Q (some (.int (nar t z))) T.heap locs) : Done p e below s Q C S (T.setTop (mkF m pc Ls (.int z :: rest))) := by
  obtain ⟨fs, hr, hrun, hended, hW, hsame⟩ := X.leave (v := some (.int (nar t z))) (fun h => by rw [hret] at h; cases h)
  exact ⟨_, _, retN X hx hret ht hd hr, hrun, hended, _, _, rfl, hq, ⟨_, rfl⟩, hW, hsame.mono hc hs⟩
theorem Done.long (X : Stand p l e R s m args below meth c T locs cells slots) (hx : p.tables.exec = Jvm.exec) (hlk : meth.locks = false) (hret : meth.sig.returnType = some .long) {pc : Nat} {Ls : Array Slot} {z : Int64} {rest : List Value} (hd : decode c.code pc = .ok (.lreturn, 1)) (hc : cells ≤ C) (hs : slots ≤ S)
    (hq : Q (some (.long z)) T.heap locs) : Done p e below s Q C S (T.setTop (mkF m pc Ls (.long z :: rest))) := by
  obtain ⟨fs, hr, hrun, hended, hW, hsame⟩ := X.leave (v := some (.long z)) (fun h => by rw [hret] at h; cases h)
  exact ⟨_, _, retOut X hx hret rfl (Or.inr (Or.inl ⟨rfl, rfl, z, rfl⟩)) hd hr, hrun, hended, _, _, rfl, hq, ⟨_, rfl⟩, hW, hsame.mono hc hs⟩
theorem Done.ref (X : Stand p l e R s m args below meth c T locs cells slots) (hx : p.tables.exec = Jvm.exec) (hlk : meth.locks = false) {t : FieldType} (hret : meth.sig.returnType = some t) (ht : t.isReference = true) {pc : Nat} {Ls : Array Slot} {w : Value} {rest : List Value} (hw : w.isRef = true) (hn : narrow t w = w) (hd : decode c.code pc = .ok (.areturn, 1)) (hc : cells ≤ C) (hs : slots ≤ S)
    (hq : Q (some w) T.heap locs) : Done p e below s Q C S (T.setTop (mkF m pc Ls (w :: rest))) := by
  obtain ⟨fs, hr, hrun, hended, hW, hsame⟩ := X.leave (v := some w) (fun h => by rw [hret] at h; cases h)
  exact ⟨_, _, retOut X hx hret hn (Or.inr (Or.inr (Or.inr (Or.inr ⟨rfl, ht, hw⟩)))) hd hr, hrun, hended, _, _, rfl, hq, ⟨_, rfl⟩, hW, hsame.mono hc hs⟩
theorem Done.void (X : Stand p l e R s m args below meth c T locs cells slots) (hx : p.tables.exec = Jvm.exec) (hlk : meth.locks = false) (hret : meth.sig.returnType = none) {pc : Nat} {Ls : Array Slot} (hd : decode c.code pc = .ok (.return_, 1)) (hc : cells ≤ C) (hs : slots ≤ S)
    (hq : Q none T.heap locs) : Done p e below s Q C S (T.setTop (mkF m pc Ls [])) := by
  obtain ⟨fs, hr, hrun, hended, hW, hsame⟩ := X.leave (v := none) (fun _ => rfl)
  exact ⟨_, _, X.returnOut hx hret hd hr, hrun, hended, _, _, rfl, hq, ⟨_, rfl⟩, hW, hsame.mono hc hs⟩
variable {Z : State} {h h' h0 : Heap} {a b : Addr} {ty : FieldType} {vs : List Value} {sl : Nat} {v x : Value} {ws : List Addr} {j : Int32} {g : JFrame} {rest : List Value}
/-- an array whose slots are just the list vs -/
def Ax (Z : State) (h : Heap) (a : Addr) (ty : FieldType) (vs : List Value) : Prop := ∃ c : Cell, Arr Z h a c ty ∧ c.slots = vs.toArray
theorem Ax.lt (F : Ax Z h a ty vs) : a < h.size := by obtain ⟨c, A, -⟩ := F; exact A.lt
theorem Ax.ext (F : Ax Z h a ty vs) (E : Ext h h') : Ax Z h' a ty vs := by obtain ⟨c, A, r⟩ := F; exact ⟨c, A.ext E, r⟩
theorem Ax.other (F : Ax Z h b ty vs) (W : Wr h h' a sl v) (q : b ≠ a) : Ax Z h' b ty vs := by obtain ⟨c, A, r⟩ := F; exact ⟨c, A.other W q, r⟩
theorem Ax.keep (F : Ax Z h a ty vs) (K : Keep h h' ws) (q : a ∉ ws) : Ax Z h' a ty vs := by obtain ⟨c, A, r⟩ := F; exact ⟨c, ⟨K.2.1 a c A.1 q, A.2⟩, r⟩
theorem own_stakeep {C n d : String} (F : Sta Z h C n d v) (K : Keep h h' ws) (q : ∀ y ∈ ws, ∃ cell : Cell, h[y]? = some cell ∧ cell.vm.isStatics = false) : Sta Z h' C n d v := by
  obtain ⟨cf, i, k, f, st, cell, h1, h2, h3, h4, h5, h6, h7⟩ := F
  refine ⟨cf, i, k, f, st, cell, h1, h2, h3, h4, K.2.1 st cell h5 (fun z => ?_), h6, h7⟩
  obtain ⟨c', g1, g2⟩ := q st z
  cases h5.symm.trans g1; rw [g2] at h6; cases h6
theorem own_unst {C : String} (F : Exa Z h a C) : ∃ cell : Cell, h[a]? = some cell ∧ cell.vm.isStatics = false := by
  obtain ⟨cell, k, h1, -, -, h4, -⟩ := F; exact ⟨cell, h1, h4⟩
theorem fld_long {t : Term} {D n d : String} {k : Int64} {y : Addr} {av : Array Value} (hh : (Jvm.Cond.eq (Term.field t D n d) (Term.long k)).value av Z none Z [] = some true) (ht : t.eval av Z none [] Z = some (.ref y)) : Fld Z Z.heap y D n d (.long k) := by
  obtain ⟨u, w, e1, e2, k1, k2⟩ := cmp_v (Or.inl hh)
  have e3 : (Term.long k).eval av Z none [] Z = some (.long k) := rfl
  rw [e3] at e2; cases e2
  obtain ⟨z, rfl⟩ := k2
  have q := gotT (eq_L e1 e3) hh
  subst q
  rw [fld_at ht] at e1
  exact Fld.start e1
theorem fld_int {t : Term} {D n d : String} {k : Int32} {y : Addr} {av : Array Value} (hh : (Jvm.Cond.eq (Term.field t D n d) (Term.int k)).value av Z none Z [] = some true) (ht : t.eval av Z none [] Z = some (.ref y)) : Fld Z Z.heap y D n d (.int k) := by
  obtain ⟨u, w, e1, e2, k1, k2⟩ := cmp_v (Or.inl hh)
  have e3 : (Term.int k).eval av Z none [] Z = some (.int k) := rfl
  rw [e3] at e2; cases e2
  obtain ⟨z, rfl⟩ := k2
  have q : z = k := by simpa [Jvm.Cond.value, e1, e3] using hh
  subst q
  rw [fld_at ht] at e1
  exact Fld.start e1
theorem Ax.set (F : Ax Z h a ty vs) (W : Wr h h' a sl v) : Ax Z h' a ty (vs.set sl v) := by
  obtain ⟨c, A, r⟩ := F
  exact ⟨_, A.same W, by rw [show (c.setSlot sl v).slots = c.slots.setIfInBounds sl v from rfl, r, List.setIfInBounds_toArray]⟩
theorem Ax.new {k : ClassId} {n : Int32} {i : Nat} (A : Arr Z h a (newA k ty n) ty) (hi : n.toNatClampNeg = i) : Ax Z h a ty (List.replicate i (defaultValue ty)) :=
  ⟨_, A, by rw [show (newA k ty n).slots = Array.replicate n.toNatClampNeg (defaultValue ty) from rfl, hi, List.toArray_replicate]⟩
theorem Ax.size {c : Cell} (r : c.slots = vs.toArray) : c.slots.size = vs.length := by rw [r, List.size_toArray]
theorem Ax.inb {c : Cell} (r : c.slots = vs.toArray) (hj : ¬ j < 0) (hl : j.toNatClampNeg < vs.length) : ¬ (j < 0 ∨ c.slots.size ≤ j.toNatClampNeg) := fun q => q.elim hj fun u => by
  rw [Ax.size r] at u; exact absurd hl (Nat.not_lt.mpr u)
theorem Ax.get {c : Cell} (r : c.slots = vs.toArray) (hat : vs[j.toNatClampNeg]? = some x) : c.slots[j.toNatClampNeg]? = some x := by rw [r, List.getElem?_toArray]; exact hat
theorem Ax.lens (hat : vs[j.toNatClampNeg]? = some x) : j.toNatClampNeg < vs.length := (List.getElem?_eq_some_iff.mp hat).1
theorem ldI (X : Stand p l e R s m args below meth c T locs cells slots) (hx : p.tables.exec = Jvm.exec) (hZ : Z.Warmed39 s.vm) (eT : T.heap = h) (F : Ax Z h a .int vs) (hj : ¬ j < 0) (hat : vs[j.toNatClampNeg]? = some x) (hg : g.method = m) (hs : g.stack = .int j :: .ref a :: rest) (hd : decode c.code g.pc = .ok (.iaload, 1)) :
    ∀ target, Steps p.tables e below (T.setTop { g with pc := g.pc + 1, stack := x :: rest }) target → Steps p.tables e below (T.setTop g) target := by
  obtain ⟨cl, A, r⟩ := F
  exact X.iaload hx (by rw [eT]; exact A.1) (State.isArrayOf_alike hZ.alike A.2.1) A.2.2 (Ax.inb r hj (Ax.lens hat)) (Ax.get r hat) hg hs hd
theorem ldJ (X : Stand p l e R s m args below meth c T locs cells slots) (hx : p.tables.exec = Jvm.exec) (hZ : Z.Warmed39 s.vm) (eT : T.heap = h) (F : Ax Z h a .long vs) (hj : ¬ j < 0) (hat : vs[j.toNatClampNeg]? = some x) (hg : g.method = m) (hs : g.stack = .int j :: .ref a :: rest) (hd : decode c.code g.pc = .ok (.laload, 1)) :
    ∀ target, Steps p.tables e below (T.setTop { g with pc := g.pc + 1, stack := x :: rest }) target → Steps p.tables e below (T.setTop g) target := by
  obtain ⟨cl, A, r⟩ := F
  exact X.laload hx (by rw [eT]; exact A.1) (State.isArrayOf_alike hZ.alike A.2.1) A.2.2 (Ax.inb r hj (Ax.lens hat)) (Ax.get r hat) hg hs hd
theorem ldB (X : Stand p l e R s m args below meth c T locs cells slots) (hx : p.tables.exec = Jvm.exec) (hZ : Z.Warmed39 s.vm) (eT : T.heap = h) (F : Ax Z h a .byte vs) (hj : ¬ j < 0) (hat : vs[j.toNatClampNeg]? = some x) (hg : g.method = m) (hs : g.stack = .int j :: .ref a :: rest) (hd : decode c.code g.pc = .ok (.baload, 1)) :
    ∀ target, Steps p.tables e below (T.setTop { g with pc := g.pc + 1, stack := x :: rest }) target → Steps p.tables e below (T.setTop g) target := by
  obtain ⟨cl, A, r⟩ := F
  exact X.baloadBytes hx (by rw [eT]; exact A.1) (State.isArrayOf_alike hZ.alike A.2.1) A.2.2 (Ax.inb r hj (Ax.lens hat)) (Ax.get r hat) hg hs hd
theorem ldZ (X : Stand p l e R s m args below meth c T locs cells slots) (hx : p.tables.exec = Jvm.exec) (hZ : Z.Warmed39 s.vm) (eT : T.heap = h) (F : Ax Z h a .boolean vs) (hj : ¬ j < 0) (hat : vs[j.toNatClampNeg]? = some x) (hg : g.method = m) (hs : g.stack = .int j :: .ref a :: rest) (hd : decode c.code g.pc = .ok (.baload, 1)) :
    ∀ target, Steps p.tables e below (T.setTop { g with pc := g.pc + 1, stack := x :: rest }) target → Steps p.tables e below (T.setTop g) target := by
  obtain ⟨cl, A, r⟩ := F
  exact X.baloadBooleans hx (by rw [eT]; exact A.1) (State.isArrayOf_alike hZ.alike A.2.1) A.2.2 (Ax.inb r hj (Ax.lens hat)) (Ax.get r hat) hg hs hd
theorem lenA (X : Stand p l e R s m args below meth c T locs cells slots) (hx : p.tables.exec = Jvm.exec) (hZ : Z.Warmed39 s.vm) (eT : T.heap = h) (F : Ax Z h a ty vs) {n : Int32} (hn : vs.length.toInt32 = n) (hg : g.method = m) (hs : g.stack = .ref a :: rest) (hd : decode c.code g.pc = .ok (.arraylength, 1)) :
    ∀ target, Steps p.tables e below (T.setTop { g with pc := g.pc + 1, stack := .int n :: rest }) target → Steps p.tables e below (T.setTop g) target := by
  obtain ⟨cl, A, r⟩ := F
  intro target k
  refine X.arraylength hx (by rw [eT]; exact A.1) (State.isArrayOf_alike hZ.alike A.2.1) hg hs hd target ?_
  rw [Ax.size r, hn]; exact k
theorem stoI (X : Stand p l e R s m args below meth c T locs cells slots) (hx : p.tables.exec = Jvm.exec) (hZ : Z.Warmed39 s.vm) (eT : T.heap = h) (F : Ax Z h a .int vs) {y : Int32} (hj : ¬ j < 0) {i : Nat} (hi : j.toNatClampNeg = i) (hl : i < vs.length) (hg : g.method = m) (hs : g.stack = .int y :: .int j :: .ref a :: rest) (hd : decode c.code g.pc = .ok (.iastore, 1)) :
    ∃ T' h', Stand p l e R s m args below meth c T' (locs ++ [⟨a, j.toNatClampNeg⟩]) cells slots ∧ T'.heap = h' ∧ Wr h h' a j.toNatClampNeg (.int y) ∧ Ax Z h' a .int (vs.set i (.int y)) ∧ ∀ target, Steps p.tables e below (T'.setTop { g with pc := g.pc + 1, stack := rest }) target → Steps p.tables e below (T.setTop g) target := by
  obtain ⟨cl, A, r⟩ := F
  obtain ⟨T', h', X', e', W, st⟩ := stI X hx hZ eT A (Ax.inb r hj (by rw [hi]; exact hl)) hg hs hd
  exact ⟨T', h', X', e', W, hi ▸ Ax.set ⟨cl, A, r⟩ W, st⟩
theorem stoJ (X : Stand p l e R s m args below meth c T locs cells slots) (hx : p.tables.exec = Jvm.exec) (hZ : Z.Warmed39 s.vm) (eT : T.heap = h) (F : Ax Z h a .long vs) {y : Int64} (hj : ¬ j < 0) {i : Nat} (hi : j.toNatClampNeg = i) (hl : i < vs.length) (hg : g.method = m) (hs : g.stack = .long y :: .int j :: .ref a :: rest) (hd : decode c.code g.pc = .ok (.lastore, 1)) :
    ∃ T' h', Stand p l e R s m args below meth c T' (locs ++ [⟨a, j.toNatClampNeg⟩]) cells slots ∧ T'.heap = h' ∧ Wr h h' a j.toNatClampNeg (.long y) ∧ Ax Z h' a .long (vs.set i (.long y)) ∧ ∀ target, Steps p.tables e below (T'.setTop { g with pc := g.pc + 1, stack := rest }) target → Steps p.tables e below (T.setTop g) target := by
  obtain ⟨cl, A, r⟩ := F
  obtain ⟨T', h', X', e', W, st⟩ := stJ X hx hZ eT A (Ax.inb r hj (by rw [hi]; exact hl)) hg hs hd
  exact ⟨T', h', X', e', W, hi ▸ Ax.set ⟨cl, A, r⟩ W, st⟩
theorem stoB (X : Stand p l e R s m args below meth c T locs cells slots) (hx : p.tables.exec = Jvm.exec) (hZ : Z.Warmed39 s.vm) (eT : T.heap = h) (F : Ax Z h a .byte vs) {y : Int32} (hj : ¬ j < 0) {i : Nat} (hi : j.toNatClampNeg = i) (hl : i < vs.length) (hg : g.method = m) (hs : g.stack = .int y :: .int j :: .ref a :: rest) (hd : decode c.code g.pc = .ok (.bastore, 1)) :
    ∃ T' h', Stand p l e R s m args below meth c T' (locs ++ [⟨a, j.toNatClampNeg⟩]) cells slots ∧ T'.heap = h' ∧ Wr h h' a j.toNatClampNeg (.int (nar .byte y)) ∧ Ax Z h' a .byte (vs.set i (.int (nar .byte y))) ∧ ∀ target, Steps p.tables e below (T'.setTop { g with pc := g.pc + 1, stack := rest }) target → Steps p.tables e below (T.setTop g) target := by
  obtain ⟨cl, A, r⟩ := F
  obtain ⟨T', h', X', e', W, st⟩ := stB X hx hZ eT A (Ax.inb r hj (by rw [hi]; exact hl)) hg hs hd
  exact ⟨T', h', X', e', W, hi ▸ Ax.set ⟨cl, A, r⟩ W, st⟩
theorem stoZ (X : Stand p l e R s m args below meth c T locs cells slots) (hx : p.tables.exec = Jvm.exec) (hZ : Z.Warmed39 s.vm) (eT : T.heap = h) (F : Ax Z h a .boolean vs) {y : Int32} (hj : ¬ j < 0) {i : Nat} (hi : j.toNatClampNeg = i) (hl : i < vs.length) (hg : g.method = m) (hs : g.stack = .int y :: .int j :: .ref a :: rest) (hd : decode c.code g.pc = .ok (.bastore, 1)) :
    ∃ T' h', Stand p l e R s m args below meth c T' (locs ++ [⟨a, j.toNatClampNeg⟩]) cells slots ∧ T'.heap = h' ∧ Wr h h' a j.toNatClampNeg (.int (nar .boolean y)) ∧ Ax Z h' a .boolean (vs.set i (.int (nar .boolean y))) ∧ ∀ target, Steps p.tables e below (T'.setTop { g with pc := g.pc + 1, stack := rest }) target → Steps p.tables e below (T.setTop g) target := by
  obtain ⟨cl, A, r⟩ := F
  obtain ⟨T', h', X', e', W, st⟩ := stZ X hx hZ eT A (Ax.inb r hj (by rw [hi]; exact hl)) hg hs hd
  exact ⟨T', h', X', e', W, hi ▸ Ax.set ⟨cl, A, r⟩ W, st⟩
theorem cloX (X : Stand p l e R s m args below meth c T locs cells slots) (hx : p.tables.exec = Jvm.exec) (hZ : Z.Warmed39 s.vm) {a0 : Array Value} {own ad : String} {index : Nat} (hown : s.vm.findClass own = some m.cls)
    (w1 : (Cond.methodLink own index ⟨ad, "clone", "()Ljava/lang/Object;"⟩).before a0 Z = true) (w2 : (Cond.sameMethod ad "java/lang/Object" "clone" "()Ljava/lang/Object;").before a0 Z = true) (w3 : (Cond.native ⟨"java/lang/Object", "clone", "()Ljava/lang/Object;"⟩).before a0 Z = true)
    (w4 : (Cond.instanceMethod ⟨"java/lang/Object", "clone", "()Ljava/lang/Object;"⟩).before a0 Z = true) (w5 : (Cond.selects ad ⟨ad, "clone", "()Ljava/lang/Object;"⟩ ⟨"java/lang/Object", "clone", "()Ljava/lang/Object;"⟩).before a0 Z = true) (w6 : (Cond.castable ad "java/lang/Cloneable").before a0 Z = true)
    (eT : T.heap = h) (F : Ax Z h a ty vs) (E : Exa Z h a ad) (G : ∀ v ∈ vs, fits ty v = true) (hg : g.method = m) (hsize : g.locals.size = c.maxLocals) (hs : g.stack = .ref a :: rest) (hd : decode c.code g.pc = .ok (.invokevirtual index, 3))
    (hf : 1 ≤ R.frames) {W cap : Nat} (hW : 2 * g.monitorRoom + (rest.map fun v => v.category).sum ≤ W) (hl : W + 14 ≤ R.locals) (hcap : vs.length ≤ cap) (hc : cells + 1 ≤ R.cells) (hsl : slots + cap ≤ R.slots) :
    ∃ T' h', Stand p l e R s m args below meth c T' locs (cells + 1) (slots + cap) ∧ T'.heap = h' ∧ Ext h h' ∧ Ax Z h' h.size ty vs ∧ Exa Z h' h.size ad ∧
      ∀ target, Steps p.tables e below (T'.setTop { g with pc := g.pc + 3, stack := .ref h.size :: rest }) target → Steps p.tables e below (T.setTop g) target := by
  obtain ⟨cl, A, r⟩ := F
  have FC : FitC Z cl := fitC_of A fun i hi v hv => by
    rw [r, List.getElem?_toArray] at hv
    exact G v (List.mem_of_getElem? hv)
  obtain ⟨T', h', X', e', ex, A', E', st⟩ := cloneA X hx hZ hown w1 w2 w3 w4 w5 w6 eT A E FC hg hsize hs hd hf hW hl (by rw [Ax.size r]; exact hcap) hc hsl
  exact ⟨T', h', X', e', ex, ⟨cloneOf cl, A', r⟩, E', st⟩
end OwnKit
abbrev vi (x : Int32) : Slot := .val (.int x)
abbrev vj (x : Int64) : Slot := .val (.long x)
abbrev vr (x : Addr) : Slot := .val (.ref x)
abbrev vu : Slot := .unset
abbrev vz : Slot := .second
abbrev Aq {p : Program} {e : Env} {below : List Frame} {s : State} {Q : Option Value → Heap → List Loc → Prop} {C S : Nat} {m : MethodId} (T : State) (pc : Nat) (ls : Array Slot) (st : List Value) : Prop := Done p e below s Q C S (T.setTop (mkF m pc ls st))
abbrev dq (b : ByteArray) (pc : Nat) (i : Instr) (n : Nat) : Prop := decode b pc = .ok (i, n)
abbrev HH (a0 : Array Value) (Z : State) : Prop := ∀ d ∈ tables_1, d.before a0 Z = true
abbrev cd0 : ByteArray := method_2_code
abbrev cd1 : ByteArray := jdk_41_method_11_code
abbrev cd2 : ByteArray := jdk_42_method_155_code
abbrev cd3 : ByteArray := jdk_52_method_6_code
abbrev cd4 : ByteArray := jdk_52_method_91_code
abbrev cd5 : ByteArray := jdk_52_method_5_code
abbrev cd6 : ByteArray := jdk_52_method_83_code
abbrev cd7 : ByteArray := jdk_43_method_2_code
abbrev cd8 : ByteArray := jdk_42_method_152_code
abbrev cd9 : ByteArray := jdk_42_method_154_code
abbrev cd10 : ByteArray := jdk_42_method_56_code
abbrev cd11 : ByteArray := jdk_42_method_54_code
abbrev cd12 : ByteArray := jdk_42_method_55_code
abbrev cd13 : ByteArray := jdk_52_method_3_code
abbrev cd14 : ByteArray := jdk_52_method_2_code
abbrev cd15 : ByteArray := jdk_52_method_4_code
abbrev cd16 : ByteArray := jdk_52_method_14_code
abbrev cd17 : ByteArray := jdk_52_method_21_code
abbrev cd18 : ByteArray := jdk_52_method_16_code
abbrev cd19 : ByteArray := jdk_52_method_15_code
abbrev cd20 : ByteArray := jdk_42_method_149_code
abbrev cd21 : ByteArray := jdk_42_method_3_code
abbrev cd22 : ByteArray := prog_7_method_5_code
abbrev cd23 : ByteArray := prog_7_method_2_code
theorem tqw {a0 : Array Value} {Z : State} (hw : HH a0 Z) (i : Nat) {d : Jvm.Cond} (q : tables_1[i]? = some d) : d.before a0 Z = true := hw _ (List.mem_of_getElem? q)
section TW
variable {a0 : Array Value} {Z : State} (hw : HH a0 Z)
def tw0 := tqw hw 0 rfl
def tw1 := tqw hw 1 rfl
def tw2 := tqw hw 2 rfl
def tw3 := tqw hw 3 rfl
def tw4 := tqw hw 4 rfl
def tw6 := tqw hw 6 rfl
def tw7 := tqw hw 7 rfl
def tw8 := tqw hw 8 rfl
def tw9 := tqw hw 9 rfl
def tw10 := tqw hw 10 rfl
def tw11 := tqw hw 11 rfl
def tw12 := tqw hw 12 rfl
def tw13 := tqw hw 13 rfl
def tw14 := tqw hw 14 rfl
def tw15 := tqw hw 15 rfl
def tw16 := tqw hw 16 rfl
def tw17 := tqw hw 17 rfl
def tw18 := tqw hw 18 rfl
def tw19 := tqw hw 19 rfl
def tw21 := tqw hw 21 rfl
def tw22 := tqw hw 22 rfl
def tw23 := tqw hw 23 rfl
def tw24 := tqw hw 24 rfl
def tw25 := tqw hw 25 rfl
def tw26 := tqw hw 26 rfl
def tw28 := tqw hw 28 rfl
def tw29 := tqw hw 29 rfl
def tw30 := tqw hw 30 rfl
def tw31 := tqw hw 31 rfl
def tw32 := tqw hw 32 rfl
def tw33 := tqw hw 33 rfl
def tw34 := tqw hw 34 rfl
def tw35 := tqw hw 35 rfl
def tw36 := tqw hw 36 rfl
def tw37 := tqw hw 37 rfl
def tw38 := tqw hw 38 rfl
def tw39 := tqw hw 39 rfl
def tw40 := tqw hw 40 rfl
def tw41 := tqw hw 41 rfl
def tw42 := tqw hw 42 rfl
def tw43 := tqw hw 43 rfl
def tw44 := tqw hw 44 rfl
def tw45 := tqw hw 45 rfl
def tw46 := tqw hw 46 rfl
def tw47 := tqw hw 47 rfl
def tw48 := tqw hw 48 rfl
def tw49 := tqw hw 49 rfl
def tw50 := tqw hw 50 rfl
def tw51 := tqw hw 51 rfl
def tw52 := tqw hw 52 rfl
def tw53 := tqw hw 53 rfl
def tw54 := tqw hw 54 rfl
def tw55 := tqw hw 55 rfl
def tw56 := tqw hw 56 rfl
def tw57 := tqw hw 57 rfl
def tw58 := tqw hw 58 rfl
def tw59 := tqw hw 59 rfl
def tw60 := tqw hw 60 rfl
def tw61 := tqw hw 61 rfl
def tw62 := tqw hw 62 rfl
def tw63 := tqw hw 63 rfl
def tw64 := tqw hw 64 rfl
def tw65 := tqw hw 65 rfl
def tw66 := tqw hw 66 rfl
def tw67 := tqw hw 67 rfl
def tw68 := tqw hw 68 rfl
def tw69 := tqw hw 69 rfl
def tw70 := tqw hw 70 rfl
def tw71 := tqw hw 71 rfl
def tw72 := tqw hw 72 rfl
def tw73 := tqw hw 73 rfl
def tw74 := tqw hw 74 rfl
def tw75 := tqw hw 75 rfl
def tw76 := tqw hw 76 rfl
def tw77 := tqw hw 77 rfl
def tw78 := tqw hw 78 rfl
def tw79 := tqw hw 79 rfl
def tw80 := tqw hw 80 rfl
def tw81 := tqw hw 81 rfl
def tw82 := tqw hw 82 rfl
def tw83 := tqw hw 83 rfl
def tw84 := tqw hw 84 rfl
def tw85 := tqw hw 85 rfl
def tw86 := tqw hw 86 rfl
def tw87 := tqw hw 87 rfl
def tw88 := tqw hw 88 rfl
def tw89 := tqw hw 89 rfl
def tw90 := tqw hw 90 rfl
def tw91 := tqw hw 91 rfl
def tw92 := tqw hw 92 rfl
def tw93 := tqw hw 93 rfl
def tw94 := tqw hw 94 rfl
def tw95 := tqw hw 95 rfl
def tw96 := tqw hw 96 rfl
def tw97 := tqw hw 97 rfl
def tw98 := tqw hw 98 rfl
def tw99 := tqw hw 99 rfl
def tw100 := tqw hw 100 rfl
def tw101 := tqw hw 101 rfl
def tw102 := tqw hw 102 rfl
def tw103 := tqw hw 103 rfl
def tw104 := tqw hw 104 rfl
def tw105 := tqw hw 105 rfl
def tw106 := tqw hw 106 rfl
def tw107 := tqw hw 107 rfl
def tw108 := tqw hw 108 rfl
def tw109 := tqw hw 109 rfl
def tw110 := tqw hw 110 rfl
def tw111 := tqw hw 111 rfl
end TW
abbrev Fl0 (Z : State) (h : Heap) (a : Addr) (v : Value) : Prop := Fld Z h a "java/lang/String" "coder" "B" v
abbrev Fl1 (Z : State) (h : Heap) (a : Addr) (v : Value) : Prop := Fld Z h a "java/lang/String" "value" "[B" v
abbrev Fl2 (Z : State) (h : Heap) (a : Addr) : Prop := Exa Z h a "java/lang/String"
abbrev Fl3 (Z : State) (h : Heap) (a : Addr) : Prop := Exa Z h a "[B"
abbrev Fl4 (Z : State) (h : Heap) (a : Addr) : Prop := Exa Z h a "[C"
theorem pd_0 : parseMethodDescriptor "(IILjava/util/function/BiFunction;)I" = some ⟨[.int, .int, (.object "java/util/function/BiFunction")], some .int⟩ := by decide +kernel
theorem pd_1 : parseMethodDescriptor "([B)I" = some ⟨[(.array .byte)], some .int⟩ := by decide +kernel
theorem pd_2 : parseMethodDescriptor "(II)V" = some ⟨[.int, .int], none⟩ := by decide +kernel
theorem pd_3 : parseMethodDescriptor "(I[B)V" = some ⟨[.int, (.array .byte)], none⟩ := by decide +kernel
theorem pd_4 : parseMethodDescriptor "([BI)C" = some ⟨[(.array .byte), .int], some .char⟩ := by decide +kernel
theorem pd_5 : parseMethodDescriptor "()Z" = some ⟨[], some .boolean⟩ := by decide +kernel
theorem pd_6 : parseMethodDescriptor "()B" = some ⟨[], some .byte⟩ := by decide +kernel
theorem pd_7 : parseMethodDescriptor "(I)I" = some ⟨[.int], some .int⟩ := by decide +kernel
theorem pd_8 : parseMethodDescriptor "([BII)V" = some ⟨[(.array .byte), .int, .int], none⟩ := by decide +kernel
theorem pd_9 : parseMethodDescriptor "(I)[B" = some ⟨[.int], some (.array .byte)⟩ := by decide +kernel
theorem pd_10 : parseMethodDescriptor "([CI[BII)I" = some ⟨[(.array .char), .int, (.array .byte), .int, .int], some .int⟩ := by decide +kernel
theorem pd_11 : parseMethodDescriptor "([CII)[B" = some ⟨[(.array .char), .int, .int], some (.array .byte)⟩ := by decide +kernel
theorem pd_12 : parseMethodDescriptor "([BI)B" = some ⟨[(.array .byte), .int], some .byte⟩ := by decide +kernel
theorem pd_13 : parseMethodDescriptor "([CIILjava/lang/Void;)V" = some ⟨[(.array .char), .int, .int, (.object "java/lang/Void")], none⟩ := by decide +kernel
theorem pd_14 : parseMethodDescriptor "()I" = some ⟨[], some .int⟩ := by decide +kernel
theorem pd_15 : parseMethodDescriptor "(I)C" = some ⟨[.int], some .char⟩ := by decide +kernel
theorem pd_16 : parseMethodDescriptor "(Ljava/lang/String;Z)Z" = some ⟨[(.object "java/lang/String"), .boolean], some .boolean⟩ := by decide +kernel
theorem pd_17 : parseMethodDescriptor "(Ljava/lang/String;)Z" = some ⟨[(.object "java/lang/String")], some .boolean⟩ := by decide +kernel
theorem pd_18 : parseMethodDescriptor "([C)V" = some ⟨[(.array .char)], none⟩ := by decide +kernel
theorem pd_19 : parseMethodDescriptor "(C)Z" = some ⟨[.char], some .boolean⟩ := by decide +kernel
theorem ldC {p : Program} {l : Launch} {e : Env} {R : Room} {s : State} {m : MethodId} {args : Array Value} {below : List Frame} {meth : Method} {c : Code} {T : State} {locs : List Loc} {cells slots : Nat} {Z : State} {h : Heap} {a : Addr} {vs : List Value} {x : Value} {j : Int32} {g : JFrame} {rest : List Value}
    (X : Stand p l e R s m args below meth c T locs cells slots) (hx : p.tables.exec = Jvm.exec) (hZ : Z.Warmed39 s.vm) (eT : T.heap = h) (F : Ax Z h a .char vs) (hj : ¬ j < 0) (hat : vs[j.toNatClampNeg]? = some x) (hg : g.method = m) (hs : g.stack = .int j :: .ref a :: rest) (hd : decode c.code g.pc = .ok (.caload, 1)) :
    ∀ target, Steps p.tables e below (T.setTop { g with pc := g.pc + 1, stack := x :: rest }) target → Steps p.tables e below (T.setTop g) target := by
  obtain ⟨cl, A, r⟩ := F
  exact X.caload hx (by rw [eT]; exact A.1) (State.isArrayOf_alike hZ.alike A.2.1) A.2.2 (Ax.inb r hj (Ax.lens hat)) (Ax.get r hat) hg hs hd
theorem stoC {p : Program} {l : Launch} {e : Env} {R : Room} {s : State} {m : MethodId} {args : Array Value} {below : List Frame} {meth : Method} {c : Code} {T : State} {locs : List Loc} {cells slots : Nat} {Z : State} {h : Heap} {a : Addr} {vs : List Value} {j : Int32} {g : JFrame} {rest : List Value}
    (X : Stand p l e R s m args below meth c T locs cells slots) (hx : p.tables.exec = Jvm.exec) (hZ : Z.Warmed39 s.vm) (eT : T.heap = h) (F : Ax Z h a .char vs) {y : Int32} (hj : ¬ j < 0) {i : Nat} (hi : j.toNatClampNeg = i) (hl : i < vs.length) (hg : g.method = m) (hs : g.stack = .int y :: .int j :: .ref a :: rest) (hd : decode c.code g.pc = .ok (.castore, 1)) :
    ∃ T' h', Stand p l e R s m args below meth c T' (locs ++ [⟨a, j.toNatClampNeg⟩]) cells slots ∧ T'.heap = h' ∧ Wr h h' a j.toNatClampNeg (.int (nar .char y)) ∧ Ax Z h' a .char (vs.set i (.int (nar .char y))) ∧ ∀ target, Steps p.tables e below (T'.setTop { g with pc := g.pc + 1, stack := rest }) target → Steps p.tables e below (T.setTop g) target := by
  obtain ⟨cl, A, r⟩ := F
  obtain ⟨T', h', X', e', W, st⟩ := stC X hx hZ eT A (Ax.inb r hj (by rw [hi]; exact hl)) hg hs hd
  exact ⟨T', h', X', e', W, hi ▸ Ax.set ⟨cl, A, r⟩ W, st⟩
theorem own_idx {x : Int32} {n m : Nat} (h : x.toInt = (n : Int)) (hl : n < m) : 0 ≤ x.toInt ∧ x.toNatClampNeg = n ∧ x.toNatClampNeg < m := by
  have : x.toNatClampNeg = n := by rw [Int32.toNatClampNeg]; omega
  exact ⟨by omega, this, by omega⟩
theorem own_nneg {x : Int32} {n : Nat} (h : x.toInt = (n : Int)) : ¬ x < 0 := by rw [Int32.lt_iff_toInt_lt]; show ¬ _ < (0 : Int); omega
theorem own_cl {x : Int32} {n : Nat} (h : x.toInt = (n : Int)) : x.toNatClampNeg = n := by rw [Int32.toNatClampNeg]; omega
theorem own_lt {x y : Int32} {n m : Nat} (h : x.toInt = (n : Int)) (h' : y.toInt = (m : Int)) : x < y ↔ n < m := by rw [Int32.lt_iff_toInt_lt]; omega
theorem own_eq {x y : Int32} {n m : Nat} (h : x.toInt = (n : Int)) (h' : y.toInt = (m : Int)) : x = y ↔ n = m := by rw [← Int32.toInt_inj]; omega
theorem own_len {n : Nat} {x : Int32} (h : x.toInt = (n : Int)) : n.toInt32 = x := by
  apply Int32.toInt_inj.mp
  have r := rng32 x
  rw [h]
  exact Int32.toInt_ofNat_of_lt (by omega)
theorem own_shl {x : Int32} {n : Nat} (h : x.toInt = (n : Int)) (hb : n ≤ 1000) : (x <<< ((1 : Int32) &&& 31)).toInt = ((2 * n : Nat) : Int) := by
  have a := c_ishl x (1 : Int32) 1 (by decide)
  have r := rng32 (x <<< ((1 : Int32) &&& 31))
  omega
theorem own_inc {x : Int32} {n : Nat} (h : x.toInt = (n : Int)) (hb : n ≤ 5000) : (x + (1 : Int32)).toInt = ((n + 1 : Nat) : Int) := by
  have a := c_iadd x (1 : Int32)
  have r := rng32 (x + (1 : Int32))
  have e1 : (1 : Int32).toInt = 1 := rfl
  omega
theorem own_shr {x : Int32} {n : Nat} (h : x.toInt = ((2 * n : Nat) : Int)) : (x >>> ((1 : Int32) &&& 31)).toInt = (n : Int) := by
  have a := c_ishr x (1 : Int32) 1 (by decide)
  omega
theorem own_nch {z : Int32} (h0 : 0 ≤ z.toInt) (h1 : z.toInt < 65536) : nar .char z = z := by
  have a := c_i2c z
  exact Int32.toInt_inj.mp (show (z.toUInt32.toUInt16.toUInt32.toInt32).toInt = z.toInt by omega)
theorem own_ncc (z : Int32) : nar .char (nar .char z) = nar .char z := own_nch (c_i2c z).2.1 (c_i2c z).2.2
/-- what a char leaves in a byte array -/
def lat (x : Int32) : Value := .int (nar .byte (x.toInt8.toInt32))
def b0 (x : Int32) : Int32 := nar .byte ((x >>> ((0 : Int32) &&& 31)).toInt8.toInt32)
def b1 (x : Int32) : Int32 := nar .byte ((x >>> ((8 : Int32) &&& 31)).toInt8.toInt32)
def GC (x y : Int32) : Int32 := nar .char ((((x &&& (255 : Int32)) <<< ((0 : Int32) &&& 31)) ||| ((y &&& (255 : Int32)) <<< ((8 : Int32) &&& 31))).toUInt32.toUInt16.toUInt32.toInt32)
def UV : List Int32 → List Value
  | [] => []
  | x :: t => .int (b0 x) :: .int (b1 x) :: UV t
theorem UV.len : ∀ xs, (UV xs).length = 2 * xs.length
  | [] => rfl
  | x :: t => by rw [UV, List.length_cons, List.length_cons, UV.len t, List.length_cons]; omega
theorem UV.at0 : ∀ (xs : List Int32) (i : Nat) (x : Int32), xs[i]? = some x → (UV xs)[2 * i]? = some (.int (b0 x)) ∧ (UV xs)[2 * i + 1]? = some (.int (b1 x))
  | [], i, x, h => by simp at h
  | y :: t, 0, x, h => by
    have : y = x := by simpa using h
    subst this; exact ⟨rfl, rfl⟩
  | y :: t, i + 1, x, h => by
    have q := UV.at0 t i x (by simpa using h)
    rw [show 2 * (i + 1) = 2 * i + 1 + 1 by omega]
    exact ⟨by simpa [UV] using q.1, by simpa [UV] using q.2⟩
theorem UV.app : ∀ xs ys, UV (xs ++ ys) = UV xs ++ UV ys
  | [], ys => rfl
  | x :: t, ys => by simp only [List.cons_append, UV, UV.app t ys]
theorem d9_0 : dq cd0 0 (.iload_n 0) 1 := by decide +kernel
theorem d9_1 : dq cd0 1 (.bipush 97) 2 := by decide +kernel
theorem d9_3 : dq cd0 3 (.if_icmp .lt 11) 3 := by decide +kernel
theorem d9_6 : dq cd0 6 (.iload_n 0) 1 := by decide +kernel
theorem d9_7 : dq cd0 7 (.bipush 122) 2 := by decide +kernel
theorem d9_9 : dq cd0 9 (.if_icmp .gt 5) 3 := by decide +kernel
theorem d9_12 : dq cd0 12 (.iconst 1) 1 := by decide +kernel
theorem d9_13 : dq cd0 13 .ireturn 1 := by decide +kernel
theorem d9_14 : dq cd0 14 (.iload_n 0) 1 := by decide +kernel
theorem d9_15 : dq cd0 15 (.bipush 65) 2 := by decide +kernel
theorem d9_17 : dq cd0 17 (.if_icmp .lt 11) 3 := by decide +kernel
theorem d9_20 : dq cd0 20 (.iload_n 0) 1 := by decide +kernel
theorem d9_21 : dq cd0 21 (.bipush 90) 2 := by decide +kernel
theorem d9_23 : dq cd0 23 (.if_icmp .gt 5) 3 := by decide +kernel
theorem d9_26 : dq cd0 26 (.iconst 1) 1 := by decide +kernel
theorem d9_27 : dq cd0 27 .ireturn 1 := by decide +kernel
theorem d9_28 : dq cd0 28 (.iload_n 0) 1 := by decide +kernel
theorem d9_29 : dq cd0 29 (.bipush 48) 2 := by decide +kernel
theorem d9_31 : dq cd0 31 (.if_icmp .lt 11) 3 := by decide +kernel
theorem d9_34 : dq cd0 34 (.iload_n 0) 1 := by decide +kernel
theorem d9_35 : dq cd0 35 (.bipush 57) 2 := by decide +kernel
theorem d9_37 : dq cd0 37 (.if_icmp .gt 5) 3 := by decide +kernel
theorem d9_40 : dq cd0 40 (.iconst 1) 1 := by decide +kernel
theorem d9_41 : dq cd0 41 .ireturn 1 := by decide +kernel
theorem d9_42 : dq cd0 42 (.iload_n 0) 1 := by decide +kernel
theorem d9_43 : dq cd0 43 (.bipush 46) 2 := by decide +kernel
theorem d9_45 : dq cd0 45 (.if_icmp .eq 15) 3 := by decide +kernel
theorem d9_48 : dq cd0 48 (.iload_n 0) 1 := by decide +kernel
theorem d9_49 : dq cd0 49 (.bipush 45) 2 := by decide +kernel
theorem d9_51 : dq cd0 51 (.if_icmp .eq 9) 3 := by decide +kernel
theorem d9_54 : dq cd0 54 (.iload_n 0) 1 := by decide +kernel
theorem d9_55 : dq cd0 55 (.bipush 95) 2 := by decide +kernel
theorem d9_57 : dq cd0 57 (.if_icmp .ne 5) 3 := by decide +kernel
theorem d9_60 : dq cd0 60 (.iconst 1) 1 := by decide +kernel
theorem d9_61 : dq cd0 61 .ireturn 1 := by decide +kernel
theorem d9_62 : dq cd0 62 (.iconst 0) 1 := by decide +kernel
theorem d9_63 : dq cd0 63 .ireturn 1 := by decide +kernel
def F9 (p1 : Int32) : Int32 := (if p1 < (97 : Int32) then (if p1 < (65 : Int32) then (if p1 < (48 : Int32) then (if p1 = (46 : Int32) then (1 : Int32)
        else (if p1 = (45 : Int32) then (1 : Int32)
          else (if p1 = (95 : Int32) then (1 : Int32)
            else (0 : Int32))))
      else (if (57 : Int32) < p1 then (if p1 = (46 : Int32) then (1 : Int32)
          else (if p1 = (45 : Int32) then (1 : Int32)
            else (if p1 = (95 : Int32) then (1 : Int32)
              else (0 : Int32))))
        else (1 : Int32)))
    else (if (90 : Int32) < p1 then (if p1 < (48 : Int32) then (if p1 = (46 : Int32) then (1 : Int32)
          else (if p1 = (45 : Int32) then (1 : Int32)
            else (if p1 = (95 : Int32) then (1 : Int32)
              else (0 : Int32))))
        else (if (57 : Int32) < p1 then (if p1 = (46 : Int32) then (1 : Int32)
            else (if p1 = (45 : Int32) then (1 : Int32)
              else (if p1 = (95 : Int32) then (1 : Int32)
                else (0 : Int32))))
          else (1 : Int32)))
      else (1 : Int32)))
  else (if (122 : Int32) < p1 then (if p1 < (65 : Int32) then (if p1 < (48 : Int32) then (if p1 = (46 : Int32) then (1 : Int32)
          else (if p1 = (45 : Int32) then (1 : Int32)
            else (if p1 = (95 : Int32) then (1 : Int32)
              else (0 : Int32))))
        else (if (57 : Int32) < p1 then (if p1 = (46 : Int32) then (1 : Int32)
            else (if p1 = (45 : Int32) then (1 : Int32)
              else (if p1 = (95 : Int32) then (1 : Int32)
                else (0 : Int32))))
          else (1 : Int32)))
      else (if (90 : Int32) < p1 then (if p1 < (48 : Int32) then (if p1 = (46 : Int32) then (1 : Int32)
            else (if p1 = (45 : Int32) then (1 : Int32)
              else (if p1 = (95 : Int32) then (1 : Int32)
                else (0 : Int32))))
          else (if (57 : Int32) < p1 then (if p1 = (46 : Int32) then (1 : Int32)
              else (if p1 = (45 : Int32) then (1 : Int32)
                else (if p1 = (95 : Int32) then (1 : Int32)
                  else (0 : Int32))))
            else (1 : Int32)))
        else (1 : Int32)))
    else (1 : Int32)))
theorem pn_9 : plainName "com/example/stowage/stowage/model/NamesIsNamePinLaw" = true := by first | (simp [plainName, overriddenIn]; done) | decide +kernel
theorem ef_9 (m : MethodId) (p1 : Int32) : entryFrame m #[(.int p1)] 1 = mkF m 0 #[.val (.int p1)] [] := by first | (simp [entryFrame, mkF, argsToLocals, Value.category]; done) | rfl
def Qrm9 (Z : State) (p1 : Int32) (h0 : Heap) (n0 : Nat) : Option Value → Heap → List Loc → Prop := fun v h L => v = some (.int (F9 p1)) ∧ Fr n0 L ∧ h = h0
set_option maxRecDepth 65536 in
set_option maxHeartbeats 40000000 in
theorem rm9 (l : Launch) (Z : State) (a0 : Array Value) (hw : HH a0 Z) (ws : List Jvm.Cond) (p1 : Int32) (h0 : Heap) (n0 : Nat) (Z0 : n0 ≤ h0.size) :
    MetFree l (⟨"com/example/stowage/stowage/model/NamesIsNamePinLaw", "ok", "(C)Z"⟩ : MethodName) (head1 (Jvm.Cond.code (⟨"com/example/stowage/stowage/model/NamesIsNamePinLaw", "ok", "(C)Z"⟩ : MethodName) method_2_code 1 (some .boolean) :: ws) ({ frames := 0, cells := 0, slots := 0, locals := 0 } : Room)) (fun a U => a = #[(.int p1)] ∧ Z.Warmed39 U.vm ∧ U.heap = h0) (fun _ _ _ _ _ => True) (fun _ U o U' => ∃ v L, o = .returned v ∧ Qrm9 Z p1 h0 n0 v U'.heap L ∧ FrameEnd U o U' L ({ frames := 0, cells := 0, slots := 0, locals := 0 } : Room).cells ({ frames := 0, cells := 0, slots := 0, locals := 0 } : Room).slots) := by
  refine MetFree.of_bodySF (plainFor_of_name pn_9) hisR ?_
  intro p e s m args below meth c s₁ Bd hml0 hP hK
  obtain ⟨rfl, hZ, hhp⟩ := hP
  have hx := Bd.exec
  have hby := Bd.bytes
  have hml : c.maxLocals = 1 := hml0
  have hown : s.vm.findClass "com/example/stowage/stowage/model/NamesIsNamePinLaw" = some m.cls := findClass_of_methodNamed Bd.named
  have hnm := (name_of_methodNamed Bd.named Bd.method).1
  have hlk : meth.locks = false := BodyLoose.notSynchronized Bd
  have hret := Bd.returns
  have X0 : Stand p l e ({ frames := 0, cells := 0, slots := 0, locals := 0 } : Room) s m #[(.int p1)] below meth c s₁ [] 0 0 := Stand.of_body Bd
  have e0 : s₁.heap = h0 := by rw [← hhp, Bd.state]; rfl
  have N0 := Fr.nil n0
  show Done p e below s (Qrm9 Z p1 h0 n0) ({ frames := 0, cells := 0, slots := 0, locals := 0 } : Room).cells ({ frames := 0, cells := 0, slots := 0, locals := 0 } : Room).slots (s₁.setTop (entryFrame m #[(.int p1)] 1))
  refine Done.step (fun t k => castTop (ef_9 m p1) k) ?_
  show Aq s₁ 0 #[vi p1] []
  refine Done.step (fun t k => XS.iloadN X0.here hx rfl (hb hby d9_0) rfl k) ?_
  show Aq s₁ 1 #[vi p1] [(.int p1)]
  refine Done.step (fun t k => XS.bipush X0.here hx rfl (hb hby d9_1) k) ?_
  show Aq s₁ 3 #[vi p1] [(.int 97), (.int p1)]
  by_cases c1 : p1 < (97 : Int32)
  · refine Done.step (fun t k => XS.icmpYes X0.here hx rfl (pc0 := 3) (pc' := 14) rfl (hb hby d9_3) rfl (tlt c1).1 (by decide) (by decide) k) ?_
    show Aq s₁ 14 #[vi p1] []
    refine Done.step (fun t k => XS.iloadN X0.here hx rfl (hb hby d9_14) rfl k) ?_
    show Aq s₁ 15 #[vi p1] [(.int p1)]
    refine Done.step (fun t k => XS.bipush X0.here hx rfl (hb hby d9_15) k) ?_
    show Aq s₁ 17 #[vi p1] [(.int 65), (.int p1)]
    by_cases c2 : p1 < (65 : Int32)
    · refine Done.step (fun t k => XS.icmpYes X0.here hx rfl (pc0 := 17) (pc' := 28) rfl (hb hby d9_17) rfl (tlt c2).1 (by decide) (by decide) k) ?_
      show Aq s₁ 28 #[vi p1] []
      refine Done.step (fun t k => XS.iloadN X0.here hx rfl (hb hby d9_28) rfl k) ?_
      show Aq s₁ 29 #[vi p1] [(.int p1)]
      refine Done.step (fun t k => XS.bipush X0.here hx rfl (hb hby d9_29) k) ?_
      show Aq s₁ 31 #[vi p1] [(.int 48), (.int p1)]
      by_cases c3 : p1 < (48 : Int32)
      · refine Done.step (fun t k => XS.icmpYes X0.here hx rfl (pc0 := 31) (pc' := 42) rfl (hb hby d9_31) rfl (tlt c3).1 (by decide) (by decide) k) ?_
        show Aq s₁ 42 #[vi p1] []
        refine Done.step (fun t k => XS.iloadN X0.here hx rfl (hb hby d9_42) rfl k) ?_
        show Aq s₁ 43 #[vi p1] [(.int p1)]
        refine Done.step (fun t k => XS.bipush X0.here hx rfl (hb hby d9_43) k) ?_
        show Aq s₁ 45 #[vi p1] [(.int 46), (.int p1)]
        by_cases c4 : p1 = (46 : Int32)
        · refine Done.step (fun t k => XS.icmpYes X0.here hx rfl (pc0 := 45) (pc' := 60) rfl (hb hby d9_45) rfl (teq c4).1 (by decide) (by decide) k) ?_
          show Aq s₁ 60 #[vi p1] []
          refine Done.step (fun t k => XS.iconst X0.here hx rfl (hb hby d9_60) k) ?_
          show Aq s₁ 61 #[vi p1] [(.int 1)]
          exact Done.narr X0 hx hlk hret (by simp) (hb hby d9_61) (by decide) (by decide) ⟨by rw [show F9 p1 = (1 : Int32) from by unfold F9; rw [if_pos c1, if_pos c2, if_pos c3, if_pos c4]] <;> rfl, N0, e0⟩
        · refine Done.step (fun t k => XS.icmpNo X0.here hx rfl (hb hby d9_45) rfl (feq c4).1 k) ?_
          show Aq s₁ 48 #[vi p1] []
          refine Done.step (fun t k => XS.iloadN X0.here hx rfl (hb hby d9_48) rfl k) ?_
          show Aq s₁ 49 #[vi p1] [(.int p1)]
          refine Done.step (fun t k => XS.bipush X0.here hx rfl (hb hby d9_49) k) ?_
          show Aq s₁ 51 #[vi p1] [(.int 45), (.int p1)]
          by_cases c5 : p1 = (45 : Int32)
          · refine Done.step (fun t k => XS.icmpYes X0.here hx rfl (pc0 := 51) (pc' := 60) rfl (hb hby d9_51) rfl (teq c5).1 (by decide) (by decide) k) ?_
            show Aq s₁ 60 #[vi p1] []
            refine Done.step (fun t k => XS.iconst X0.here hx rfl (hb hby d9_60) k) ?_
            show Aq s₁ 61 #[vi p1] [(.int 1)]
            exact Done.narr X0 hx hlk hret (by simp) (hb hby d9_61) (by decide) (by decide) ⟨by rw [show F9 p1 = (1 : Int32) from by unfold F9; rw [if_pos c1, if_pos c2, if_pos c3, if_neg c4, if_pos c5]] <;> rfl, N0, e0⟩
          · refine Done.step (fun t k => XS.icmpNo X0.here hx rfl (hb hby d9_51) rfl (feq c5).1 k) ?_
            show Aq s₁ 54 #[vi p1] []
            refine Done.step (fun t k => XS.iloadN X0.here hx rfl (hb hby d9_54) rfl k) ?_
            show Aq s₁ 55 #[vi p1] [(.int p1)]
            refine Done.step (fun t k => XS.bipush X0.here hx rfl (hb hby d9_55) k) ?_
            show Aq s₁ 57 #[vi p1] [(.int 95), (.int p1)]
            by_cases c6 : p1 = (95 : Int32)
            · refine Done.step (fun t k => XS.icmpNo X0.here hx rfl (hb hby d9_57) rfl (teq c6).2 k) ?_
              show Aq s₁ 60 #[vi p1] []
              refine Done.step (fun t k => XS.iconst X0.here hx rfl (hb hby d9_60) k) ?_
              show Aq s₁ 61 #[vi p1] [(.int 1)]
              exact Done.narr X0 hx hlk hret (by simp) (hb hby d9_61) (by decide) (by decide) ⟨by rw [show F9 p1 = (1 : Int32) from by unfold F9; rw [if_pos c1, if_pos c2, if_pos c3, if_neg c4, if_neg c5, if_pos c6]] <;> rfl, N0, e0⟩
            · refine Done.step (fun t k => XS.icmpYes X0.here hx rfl (pc0 := 57) (pc' := 62) rfl (hb hby d9_57) rfl (feq c6).2 (by decide) (by decide) k) ?_
              show Aq s₁ 62 #[vi p1] []
              refine Done.step (fun t k => XS.iconst X0.here hx rfl (hb hby d9_62) k) ?_
              show Aq s₁ 63 #[vi p1] [(.int 0)]
              exact Done.narr X0 hx hlk hret (by simp) (hb hby d9_63) (by decide) (by decide) ⟨by rw [show F9 p1 = (0 : Int32) from by unfold F9; rw [if_pos c1, if_pos c2, if_pos c3, if_neg c4, if_neg c5, if_neg c6]] <;> rfl, N0, e0⟩
      · refine Done.step (fun t k => XS.icmpNo X0.here hx rfl (hb hby d9_31) rfl (flt c3).1 k) ?_
        show Aq s₁ 34 #[vi p1] []
        refine Done.step (fun t k => XS.iloadN X0.here hx rfl (hb hby d9_34) rfl k) ?_
        show Aq s₁ 35 #[vi p1] [(.int p1)]
        refine Done.step (fun t k => XS.bipush X0.here hx rfl (hb hby d9_35) k) ?_
        show Aq s₁ 37 #[vi p1] [(.int 57), (.int p1)]
        by_cases c7 : (57 : Int32) < p1
        · refine Done.step (fun t k => XS.icmpYes X0.here hx rfl (pc0 := 37) (pc' := 42) rfl (hb hby d9_37) rfl (tlt c7).2.2.1 (by decide) (by decide) k) ?_
          show Aq s₁ 42 #[vi p1] []
          refine Done.step (fun t k => XS.iloadN X0.here hx rfl (hb hby d9_42) rfl k) ?_
          show Aq s₁ 43 #[vi p1] [(.int p1)]
          refine Done.step (fun t k => XS.bipush X0.here hx rfl (hb hby d9_43) k) ?_
          show Aq s₁ 45 #[vi p1] [(.int 46), (.int p1)]
          by_cases c8 : p1 = (46 : Int32)
          · refine Done.step (fun t k => XS.icmpYes X0.here hx rfl (pc0 := 45) (pc' := 60) rfl (hb hby d9_45) rfl (teq c8).1 (by decide) (by decide) k) ?_
            show Aq s₁ 60 #[vi p1] []
            refine Done.step (fun t k => XS.iconst X0.here hx rfl (hb hby d9_60) k) ?_
            show Aq s₁ 61 #[vi p1] [(.int 1)]
            exact Done.narr X0 hx hlk hret (by simp) (hb hby d9_61) (by decide) (by decide) ⟨by rw [show F9 p1 = (1 : Int32) from by unfold F9; rw [if_pos c1, if_pos c2, if_neg c3, if_pos c7, if_pos c8]] <;> rfl, N0, e0⟩
          · refine Done.step (fun t k => XS.icmpNo X0.here hx rfl (hb hby d9_45) rfl (feq c8).1 k) ?_
            show Aq s₁ 48 #[vi p1] []
            refine Done.step (fun t k => XS.iloadN X0.here hx rfl (hb hby d9_48) rfl k) ?_
            show Aq s₁ 49 #[vi p1] [(.int p1)]
            refine Done.step (fun t k => XS.bipush X0.here hx rfl (hb hby d9_49) k) ?_
            show Aq s₁ 51 #[vi p1] [(.int 45), (.int p1)]
            by_cases c9 : p1 = (45 : Int32)
            · refine Done.step (fun t k => XS.icmpYes X0.here hx rfl (pc0 := 51) (pc' := 60) rfl (hb hby d9_51) rfl (teq c9).1 (by decide) (by decide) k) ?_
              show Aq s₁ 60 #[vi p1] []
              refine Done.step (fun t k => XS.iconst X0.here hx rfl (hb hby d9_60) k) ?_
              show Aq s₁ 61 #[vi p1] [(.int 1)]
              exact Done.narr X0 hx hlk hret (by simp) (hb hby d9_61) (by decide) (by decide) ⟨by rw [show F9 p1 = (1 : Int32) from by unfold F9; rw [if_pos c1, if_pos c2, if_neg c3, if_pos c7, if_neg c8, if_pos c9]] <;> rfl, N0, e0⟩
            · refine Done.step (fun t k => XS.icmpNo X0.here hx rfl (hb hby d9_51) rfl (feq c9).1 k) ?_
              show Aq s₁ 54 #[vi p1] []
              refine Done.step (fun t k => XS.iloadN X0.here hx rfl (hb hby d9_54) rfl k) ?_
              show Aq s₁ 55 #[vi p1] [(.int p1)]
              refine Done.step (fun t k => XS.bipush X0.here hx rfl (hb hby d9_55) k) ?_
              show Aq s₁ 57 #[vi p1] [(.int 95), (.int p1)]
              by_cases c10 : p1 = (95 : Int32)
              · refine Done.step (fun t k => XS.icmpNo X0.here hx rfl (hb hby d9_57) rfl (teq c10).2 k) ?_
                show Aq s₁ 60 #[vi p1] []
                refine Done.step (fun t k => XS.iconst X0.here hx rfl (hb hby d9_60) k) ?_
                show Aq s₁ 61 #[vi p1] [(.int 1)]
                exact Done.narr X0 hx hlk hret (by simp) (hb hby d9_61) (by decide) (by decide) ⟨by rw [show F9 p1 = (1 : Int32) from by unfold F9; rw [if_pos c1, if_pos c2, if_neg c3, if_pos c7, if_neg c8, if_neg c9, if_pos c10]] <;> rfl, N0, e0⟩
              · refine Done.step (fun t k => XS.icmpYes X0.here hx rfl (pc0 := 57) (pc' := 62) rfl (hb hby d9_57) rfl (feq c10).2 (by decide) (by decide) k) ?_
                show Aq s₁ 62 #[vi p1] []
                refine Done.step (fun t k => XS.iconst X0.here hx rfl (hb hby d9_62) k) ?_
                show Aq s₁ 63 #[vi p1] [(.int 0)]
                exact Done.narr X0 hx hlk hret (by simp) (hb hby d9_63) (by decide) (by decide) ⟨by rw [show F9 p1 = (0 : Int32) from by unfold F9; rw [if_pos c1, if_pos c2, if_neg c3, if_pos c7, if_neg c8, if_neg c9, if_neg c10]] <;> rfl, N0, e0⟩
        · refine Done.step (fun t k => XS.icmpNo X0.here hx rfl (hb hby d9_37) rfl (flt c7).2.2.1 k) ?_
          show Aq s₁ 40 #[vi p1] []
          refine Done.step (fun t k => XS.iconst X0.here hx rfl (hb hby d9_40) k) ?_
          show Aq s₁ 41 #[vi p1] [(.int 1)]
          exact Done.narr X0 hx hlk hret (by simp) (hb hby d9_41) (by decide) (by decide) ⟨by rw [show F9 p1 = (1 : Int32) from by unfold F9; rw [if_pos c1, if_pos c2, if_neg c3, if_neg c7]] <;> rfl, N0, e0⟩
    · refine Done.step (fun t k => XS.icmpNo X0.here hx rfl (hb hby d9_17) rfl (flt c2).1 k) ?_
      show Aq s₁ 20 #[vi p1] []
      refine Done.step (fun t k => XS.iloadN X0.here hx rfl (hb hby d9_20) rfl k) ?_
      show Aq s₁ 21 #[vi p1] [(.int p1)]
      refine Done.step (fun t k => XS.bipush X0.here hx rfl (hb hby d9_21) k) ?_
      show Aq s₁ 23 #[vi p1] [(.int 90), (.int p1)]
      by_cases c11 : (90 : Int32) < p1
      · refine Done.step (fun t k => XS.icmpYes X0.here hx rfl (pc0 := 23) (pc' := 28) rfl (hb hby d9_23) rfl (tlt c11).2.2.1 (by decide) (by decide) k) ?_
        show Aq s₁ 28 #[vi p1] []
        refine Done.step (fun t k => XS.iloadN X0.here hx rfl (hb hby d9_28) rfl k) ?_
        show Aq s₁ 29 #[vi p1] [(.int p1)]
        refine Done.step (fun t k => XS.bipush X0.here hx rfl (hb hby d9_29) k) ?_
        show Aq s₁ 31 #[vi p1] [(.int 48), (.int p1)]
        by_cases c12 : p1 < (48 : Int32)
        · refine Done.step (fun t k => XS.icmpYes X0.here hx rfl (pc0 := 31) (pc' := 42) rfl (hb hby d9_31) rfl (tlt c12).1 (by decide) (by decide) k) ?_
          show Aq s₁ 42 #[vi p1] []
          refine Done.step (fun t k => XS.iloadN X0.here hx rfl (hb hby d9_42) rfl k) ?_
          show Aq s₁ 43 #[vi p1] [(.int p1)]
          refine Done.step (fun t k => XS.bipush X0.here hx rfl (hb hby d9_43) k) ?_
          show Aq s₁ 45 #[vi p1] [(.int 46), (.int p1)]
          by_cases c13 : p1 = (46 : Int32)
          · refine Done.step (fun t k => XS.icmpYes X0.here hx rfl (pc0 := 45) (pc' := 60) rfl (hb hby d9_45) rfl (teq c13).1 (by decide) (by decide) k) ?_
            show Aq s₁ 60 #[vi p1] []
            refine Done.step (fun t k => XS.iconst X0.here hx rfl (hb hby d9_60) k) ?_
            show Aq s₁ 61 #[vi p1] [(.int 1)]
            exact Done.narr X0 hx hlk hret (by simp) (hb hby d9_61) (by decide) (by decide) ⟨by rw [show F9 p1 = (1 : Int32) from by unfold F9; rw [if_pos c1, if_neg c2, if_pos c11, if_pos c12, if_pos c13]] <;> rfl, N0, e0⟩
          · refine Done.step (fun t k => XS.icmpNo X0.here hx rfl (hb hby d9_45) rfl (feq c13).1 k) ?_
            show Aq s₁ 48 #[vi p1] []
            refine Done.step (fun t k => XS.iloadN X0.here hx rfl (hb hby d9_48) rfl k) ?_
            show Aq s₁ 49 #[vi p1] [(.int p1)]
            refine Done.step (fun t k => XS.bipush X0.here hx rfl (hb hby d9_49) k) ?_
            show Aq s₁ 51 #[vi p1] [(.int 45), (.int p1)]
            by_cases c14 : p1 = (45 : Int32)
            · refine Done.step (fun t k => XS.icmpYes X0.here hx rfl (pc0 := 51) (pc' := 60) rfl (hb hby d9_51) rfl (teq c14).1 (by decide) (by decide) k) ?_
              show Aq s₁ 60 #[vi p1] []
              refine Done.step (fun t k => XS.iconst X0.here hx rfl (hb hby d9_60) k) ?_
              show Aq s₁ 61 #[vi p1] [(.int 1)]
              exact Done.narr X0 hx hlk hret (by simp) (hb hby d9_61) (by decide) (by decide) ⟨by rw [show F9 p1 = (1 : Int32) from by unfold F9; rw [if_pos c1, if_neg c2, if_pos c11, if_pos c12, if_neg c13, if_pos c14]] <;> rfl, N0, e0⟩
            · refine Done.step (fun t k => XS.icmpNo X0.here hx rfl (hb hby d9_51) rfl (feq c14).1 k) ?_
              show Aq s₁ 54 #[vi p1] []
              refine Done.step (fun t k => XS.iloadN X0.here hx rfl (hb hby d9_54) rfl k) ?_
              show Aq s₁ 55 #[vi p1] [(.int p1)]
              refine Done.step (fun t k => XS.bipush X0.here hx rfl (hb hby d9_55) k) ?_
              show Aq s₁ 57 #[vi p1] [(.int 95), (.int p1)]
              by_cases c15 : p1 = (95 : Int32)
              · refine Done.step (fun t k => XS.icmpNo X0.here hx rfl (hb hby d9_57) rfl (teq c15).2 k) ?_
                show Aq s₁ 60 #[vi p1] []
                refine Done.step (fun t k => XS.iconst X0.here hx rfl (hb hby d9_60) k) ?_
                show Aq s₁ 61 #[vi p1] [(.int 1)]
                exact Done.narr X0 hx hlk hret (by simp) (hb hby d9_61) (by decide) (by decide) ⟨by rw [show F9 p1 = (1 : Int32) from by unfold F9; rw [if_pos c1, if_neg c2, if_pos c11, if_pos c12, if_neg c13, if_neg c14, if_pos c15]] <;> rfl, N0, e0⟩
              · refine Done.step (fun t k => XS.icmpYes X0.here hx rfl (pc0 := 57) (pc' := 62) rfl (hb hby d9_57) rfl (feq c15).2 (by decide) (by decide) k) ?_
                show Aq s₁ 62 #[vi p1] []
                refine Done.step (fun t k => XS.iconst X0.here hx rfl (hb hby d9_62) k) ?_
                show Aq s₁ 63 #[vi p1] [(.int 0)]
                exact Done.narr X0 hx hlk hret (by simp) (hb hby d9_63) (by decide) (by decide) ⟨by rw [show F9 p1 = (0 : Int32) from by unfold F9; rw [if_pos c1, if_neg c2, if_pos c11, if_pos c12, if_neg c13, if_neg c14, if_neg c15]] <;> rfl, N0, e0⟩
        · refine Done.step (fun t k => XS.icmpNo X0.here hx rfl (hb hby d9_31) rfl (flt c12).1 k) ?_
          show Aq s₁ 34 #[vi p1] []
          refine Done.step (fun t k => XS.iloadN X0.here hx rfl (hb hby d9_34) rfl k) ?_
          show Aq s₁ 35 #[vi p1] [(.int p1)]
          refine Done.step (fun t k => XS.bipush X0.here hx rfl (hb hby d9_35) k) ?_
          show Aq s₁ 37 #[vi p1] [(.int 57), (.int p1)]
          by_cases c16 : (57 : Int32) < p1
          · refine Done.step (fun t k => XS.icmpYes X0.here hx rfl (pc0 := 37) (pc' := 42) rfl (hb hby d9_37) rfl (tlt c16).2.2.1 (by decide) (by decide) k) ?_
            show Aq s₁ 42 #[vi p1] []
            refine Done.step (fun t k => XS.iloadN X0.here hx rfl (hb hby d9_42) rfl k) ?_
            show Aq s₁ 43 #[vi p1] [(.int p1)]
            refine Done.step (fun t k => XS.bipush X0.here hx rfl (hb hby d9_43) k) ?_
            show Aq s₁ 45 #[vi p1] [(.int 46), (.int p1)]
            by_cases c17 : p1 = (46 : Int32)
            · refine Done.step (fun t k => XS.icmpYes X0.here hx rfl (pc0 := 45) (pc' := 60) rfl (hb hby d9_45) rfl (teq c17).1 (by decide) (by decide) k) ?_
              show Aq s₁ 60 #[vi p1] []
              refine Done.step (fun t k => XS.iconst X0.here hx rfl (hb hby d9_60) k) ?_
              show Aq s₁ 61 #[vi p1] [(.int 1)]
              exact Done.narr X0 hx hlk hret (by simp) (hb hby d9_61) (by decide) (by decide) ⟨by rw [show F9 p1 = (1 : Int32) from by unfold F9; rw [if_pos c1, if_neg c2, if_pos c11, if_neg c12, if_pos c16, if_pos c17]] <;> rfl, N0, e0⟩
            · refine Done.step (fun t k => XS.icmpNo X0.here hx rfl (hb hby d9_45) rfl (feq c17).1 k) ?_
              show Aq s₁ 48 #[vi p1] []
              refine Done.step (fun t k => XS.iloadN X0.here hx rfl (hb hby d9_48) rfl k) ?_
              show Aq s₁ 49 #[vi p1] [(.int p1)]
              refine Done.step (fun t k => XS.bipush X0.here hx rfl (hb hby d9_49) k) ?_
              show Aq s₁ 51 #[vi p1] [(.int 45), (.int p1)]
              by_cases c18 : p1 = (45 : Int32)
              · refine Done.step (fun t k => XS.icmpYes X0.here hx rfl (pc0 := 51) (pc' := 60) rfl (hb hby d9_51) rfl (teq c18).1 (by decide) (by decide) k) ?_
                show Aq s₁ 60 #[vi p1] []
                refine Done.step (fun t k => XS.iconst X0.here hx rfl (hb hby d9_60) k) ?_
                show Aq s₁ 61 #[vi p1] [(.int 1)]
                exact Done.narr X0 hx hlk hret (by simp) (hb hby d9_61) (by decide) (by decide) ⟨by rw [show F9 p1 = (1 : Int32) from by unfold F9; rw [if_pos c1, if_neg c2, if_pos c11, if_neg c12, if_pos c16, if_neg c17, if_pos c18]] <;> rfl, N0, e0⟩
              · refine Done.step (fun t k => XS.icmpNo X0.here hx rfl (hb hby d9_51) rfl (feq c18).1 k) ?_
                show Aq s₁ 54 #[vi p1] []
                refine Done.step (fun t k => XS.iloadN X0.here hx rfl (hb hby d9_54) rfl k) ?_
                show Aq s₁ 55 #[vi p1] [(.int p1)]
                refine Done.step (fun t k => XS.bipush X0.here hx rfl (hb hby d9_55) k) ?_
                show Aq s₁ 57 #[vi p1] [(.int 95), (.int p1)]
                by_cases c19 : p1 = (95 : Int32)
                · refine Done.step (fun t k => XS.icmpNo X0.here hx rfl (hb hby d9_57) rfl (teq c19).2 k) ?_
                  show Aq s₁ 60 #[vi p1] []
                  refine Done.step (fun t k => XS.iconst X0.here hx rfl (hb hby d9_60) k) ?_
                  show Aq s₁ 61 #[vi p1] [(.int 1)]
                  exact Done.narr X0 hx hlk hret (by simp) (hb hby d9_61) (by decide) (by decide) ⟨by rw [show F9 p1 = (1 : Int32) from by unfold F9; rw [if_pos c1, if_neg c2, if_pos c11, if_neg c12, if_pos c16, if_neg c17, if_neg c18, if_pos c19]] <;> rfl, N0, e0⟩
                · refine Done.step (fun t k => XS.icmpYes X0.here hx rfl (pc0 := 57) (pc' := 62) rfl (hb hby d9_57) rfl (feq c19).2 (by decide) (by decide) k) ?_
                  show Aq s₁ 62 #[vi p1] []
                  refine Done.step (fun t k => XS.iconst X0.here hx rfl (hb hby d9_62) k) ?_
                  show Aq s₁ 63 #[vi p1] [(.int 0)]
                  exact Done.narr X0 hx hlk hret (by simp) (hb hby d9_63) (by decide) (by decide) ⟨by rw [show F9 p1 = (0 : Int32) from by unfold F9; rw [if_pos c1, if_neg c2, if_pos c11, if_neg c12, if_pos c16, if_neg c17, if_neg c18, if_neg c19]] <;> rfl, N0, e0⟩
          · refine Done.step (fun t k => XS.icmpNo X0.here hx rfl (hb hby d9_37) rfl (flt c16).2.2.1 k) ?_
            show Aq s₁ 40 #[vi p1] []
            refine Done.step (fun t k => XS.iconst X0.here hx rfl (hb hby d9_40) k) ?_
            show Aq s₁ 41 #[vi p1] [(.int 1)]
            exact Done.narr X0 hx hlk hret (by simp) (hb hby d9_41) (by decide) (by decide) ⟨by rw [show F9 p1 = (1 : Int32) from by unfold F9; rw [if_pos c1, if_neg c2, if_pos c11, if_neg c12, if_neg c16]] <;> rfl, N0, e0⟩
      · refine Done.step (fun t k => XS.icmpNo X0.here hx rfl (hb hby d9_23) rfl (flt c11).2.2.1 k) ?_
        show Aq s₁ 26 #[vi p1] []
        refine Done.step (fun t k => XS.iconst X0.here hx rfl (hb hby d9_26) k) ?_
        show Aq s₁ 27 #[vi p1] [(.int 1)]
        exact Done.narr X0 hx hlk hret (by simp) (hb hby d9_27) (by decide) (by decide) ⟨by rw [show F9 p1 = (1 : Int32) from by unfold F9; rw [if_pos c1, if_neg c2, if_neg c11]] <;> rfl, N0, e0⟩
  · refine Done.step (fun t k => XS.icmpNo X0.here hx rfl (hb hby d9_3) rfl (flt c1).1 k) ?_
    show Aq s₁ 6 #[vi p1] []
    refine Done.step (fun t k => XS.iloadN X0.here hx rfl (hb hby d9_6) rfl k) ?_
    show Aq s₁ 7 #[vi p1] [(.int p1)]
    refine Done.step (fun t k => XS.bipush X0.here hx rfl (hb hby d9_7) k) ?_
    show Aq s₁ 9 #[vi p1] [(.int 122), (.int p1)]
    by_cases c20 : (122 : Int32) < p1
    · refine Done.step (fun t k => XS.icmpYes X0.here hx rfl (pc0 := 9) (pc' := 14) rfl (hb hby d9_9) rfl (tlt c20).2.2.1 (by decide) (by decide) k) ?_
      show Aq s₁ 14 #[vi p1] []
      refine Done.step (fun t k => XS.iloadN X0.here hx rfl (hb hby d9_14) rfl k) ?_
      show Aq s₁ 15 #[vi p1] [(.int p1)]
      refine Done.step (fun t k => XS.bipush X0.here hx rfl (hb hby d9_15) k) ?_
      show Aq s₁ 17 #[vi p1] [(.int 65), (.int p1)]
      by_cases c21 : p1 < (65 : Int32)
      · refine Done.step (fun t k => XS.icmpYes X0.here hx rfl (pc0 := 17) (pc' := 28) rfl (hb hby d9_17) rfl (tlt c21).1 (by decide) (by decide) k) ?_
        show Aq s₁ 28 #[vi p1] []
        refine Done.step (fun t k => XS.iloadN X0.here hx rfl (hb hby d9_28) rfl k) ?_
        show Aq s₁ 29 #[vi p1] [(.int p1)]
        refine Done.step (fun t k => XS.bipush X0.here hx rfl (hb hby d9_29) k) ?_
        show Aq s₁ 31 #[vi p1] [(.int 48), (.int p1)]
        by_cases c22 : p1 < (48 : Int32)
        · refine Done.step (fun t k => XS.icmpYes X0.here hx rfl (pc0 := 31) (pc' := 42) rfl (hb hby d9_31) rfl (tlt c22).1 (by decide) (by decide) k) ?_
          show Aq s₁ 42 #[vi p1] []
          refine Done.step (fun t k => XS.iloadN X0.here hx rfl (hb hby d9_42) rfl k) ?_
          show Aq s₁ 43 #[vi p1] [(.int p1)]
          refine Done.step (fun t k => XS.bipush X0.here hx rfl (hb hby d9_43) k) ?_
          show Aq s₁ 45 #[vi p1] [(.int 46), (.int p1)]
          by_cases c23 : p1 = (46 : Int32)
          · refine Done.step (fun t k => XS.icmpYes X0.here hx rfl (pc0 := 45) (pc' := 60) rfl (hb hby d9_45) rfl (teq c23).1 (by decide) (by decide) k) ?_
            show Aq s₁ 60 #[vi p1] []
            refine Done.step (fun t k => XS.iconst X0.here hx rfl (hb hby d9_60) k) ?_
            show Aq s₁ 61 #[vi p1] [(.int 1)]
            exact Done.narr X0 hx hlk hret (by simp) (hb hby d9_61) (by decide) (by decide) ⟨by rw [show F9 p1 = (1 : Int32) from by unfold F9; rw [if_neg c1, if_pos c20, if_pos c21, if_pos c22, if_pos c23]] <;> rfl, N0, e0⟩
          · refine Done.step (fun t k => XS.icmpNo X0.here hx rfl (hb hby d9_45) rfl (feq c23).1 k) ?_
            show Aq s₁ 48 #[vi p1] []
            refine Done.step (fun t k => XS.iloadN X0.here hx rfl (hb hby d9_48) rfl k) ?_
            show Aq s₁ 49 #[vi p1] [(.int p1)]
            refine Done.step (fun t k => XS.bipush X0.here hx rfl (hb hby d9_49) k) ?_
            show Aq s₁ 51 #[vi p1] [(.int 45), (.int p1)]
            by_cases c24 : p1 = (45 : Int32)
            · refine Done.step (fun t k => XS.icmpYes X0.here hx rfl (pc0 := 51) (pc' := 60) rfl (hb hby d9_51) rfl (teq c24).1 (by decide) (by decide) k) ?_
              show Aq s₁ 60 #[vi p1] []
              refine Done.step (fun t k => XS.iconst X0.here hx rfl (hb hby d9_60) k) ?_
              show Aq s₁ 61 #[vi p1] [(.int 1)]
              exact Done.narr X0 hx hlk hret (by simp) (hb hby d9_61) (by decide) (by decide) ⟨by rw [show F9 p1 = (1 : Int32) from by unfold F9; rw [if_neg c1, if_pos c20, if_pos c21, if_pos c22, if_neg c23, if_pos c24]] <;> rfl, N0, e0⟩
            · refine Done.step (fun t k => XS.icmpNo X0.here hx rfl (hb hby d9_51) rfl (feq c24).1 k) ?_
              show Aq s₁ 54 #[vi p1] []
              refine Done.step (fun t k => XS.iloadN X0.here hx rfl (hb hby d9_54) rfl k) ?_
              show Aq s₁ 55 #[vi p1] [(.int p1)]
              refine Done.step (fun t k => XS.bipush X0.here hx rfl (hb hby d9_55) k) ?_
              show Aq s₁ 57 #[vi p1] [(.int 95), (.int p1)]
              by_cases c25 : p1 = (95 : Int32)
              · refine Done.step (fun t k => XS.icmpNo X0.here hx rfl (hb hby d9_57) rfl (teq c25).2 k) ?_
                show Aq s₁ 60 #[vi p1] []
                refine Done.step (fun t k => XS.iconst X0.here hx rfl (hb hby d9_60) k) ?_
                show Aq s₁ 61 #[vi p1] [(.int 1)]
                exact Done.narr X0 hx hlk hret (by simp) (hb hby d9_61) (by decide) (by decide) ⟨by rw [show F9 p1 = (1 : Int32) from by unfold F9; rw [if_neg c1, if_pos c20, if_pos c21, if_pos c22, if_neg c23, if_neg c24, if_pos c25]] <;> rfl, N0, e0⟩
              · refine Done.step (fun t k => XS.icmpYes X0.here hx rfl (pc0 := 57) (pc' := 62) rfl (hb hby d9_57) rfl (feq c25).2 (by decide) (by decide) k) ?_
                show Aq s₁ 62 #[vi p1] []
                refine Done.step (fun t k => XS.iconst X0.here hx rfl (hb hby d9_62) k) ?_
                show Aq s₁ 63 #[vi p1] [(.int 0)]
                exact Done.narr X0 hx hlk hret (by simp) (hb hby d9_63) (by decide) (by decide) ⟨by rw [show F9 p1 = (0 : Int32) from by unfold F9; rw [if_neg c1, if_pos c20, if_pos c21, if_pos c22, if_neg c23, if_neg c24, if_neg c25]] <;> rfl, N0, e0⟩
        · refine Done.step (fun t k => XS.icmpNo X0.here hx rfl (hb hby d9_31) rfl (flt c22).1 k) ?_
          show Aq s₁ 34 #[vi p1] []
          refine Done.step (fun t k => XS.iloadN X0.here hx rfl (hb hby d9_34) rfl k) ?_
          show Aq s₁ 35 #[vi p1] [(.int p1)]
          refine Done.step (fun t k => XS.bipush X0.here hx rfl (hb hby d9_35) k) ?_
          show Aq s₁ 37 #[vi p1] [(.int 57), (.int p1)]
          by_cases c26 : (57 : Int32) < p1
          · refine Done.step (fun t k => XS.icmpYes X0.here hx rfl (pc0 := 37) (pc' := 42) rfl (hb hby d9_37) rfl (tlt c26).2.2.1 (by decide) (by decide) k) ?_
            show Aq s₁ 42 #[vi p1] []
            refine Done.step (fun t k => XS.iloadN X0.here hx rfl (hb hby d9_42) rfl k) ?_
            show Aq s₁ 43 #[vi p1] [(.int p1)]
            refine Done.step (fun t k => XS.bipush X0.here hx rfl (hb hby d9_43) k) ?_
            show Aq s₁ 45 #[vi p1] [(.int 46), (.int p1)]
            by_cases c27 : p1 = (46 : Int32)
            · refine Done.step (fun t k => XS.icmpYes X0.here hx rfl (pc0 := 45) (pc' := 60) rfl (hb hby d9_45) rfl (teq c27).1 (by decide) (by decide) k) ?_
              show Aq s₁ 60 #[vi p1] []
              refine Done.step (fun t k => XS.iconst X0.here hx rfl (hb hby d9_60) k) ?_
              show Aq s₁ 61 #[vi p1] [(.int 1)]
              exact Done.narr X0 hx hlk hret (by simp) (hb hby d9_61) (by decide) (by decide) ⟨by rw [show F9 p1 = (1 : Int32) from by unfold F9; rw [if_neg c1, if_pos c20, if_pos c21, if_neg c22, if_pos c26, if_pos c27]] <;> rfl, N0, e0⟩
            · refine Done.step (fun t k => XS.icmpNo X0.here hx rfl (hb hby d9_45) rfl (feq c27).1 k) ?_
              show Aq s₁ 48 #[vi p1] []
              refine Done.step (fun t k => XS.iloadN X0.here hx rfl (hb hby d9_48) rfl k) ?_
              show Aq s₁ 49 #[vi p1] [(.int p1)]
              refine Done.step (fun t k => XS.bipush X0.here hx rfl (hb hby d9_49) k) ?_
              show Aq s₁ 51 #[vi p1] [(.int 45), (.int p1)]
              by_cases c28 : p1 = (45 : Int32)
              · refine Done.step (fun t k => XS.icmpYes X0.here hx rfl (pc0 := 51) (pc' := 60) rfl (hb hby d9_51) rfl (teq c28).1 (by decide) (by decide) k) ?_
                show Aq s₁ 60 #[vi p1] []
                refine Done.step (fun t k => XS.iconst X0.here hx rfl (hb hby d9_60) k) ?_
                show Aq s₁ 61 #[vi p1] [(.int 1)]
                exact Done.narr X0 hx hlk hret (by simp) (hb hby d9_61) (by decide) (by decide) ⟨by rw [show F9 p1 = (1 : Int32) from by unfold F9; rw [if_neg c1, if_pos c20, if_pos c21, if_neg c22, if_pos c26, if_neg c27, if_pos c28]] <;> rfl, N0, e0⟩
              · refine Done.step (fun t k => XS.icmpNo X0.here hx rfl (hb hby d9_51) rfl (feq c28).1 k) ?_
                show Aq s₁ 54 #[vi p1] []
                refine Done.step (fun t k => XS.iloadN X0.here hx rfl (hb hby d9_54) rfl k) ?_
                show Aq s₁ 55 #[vi p1] [(.int p1)]
                refine Done.step (fun t k => XS.bipush X0.here hx rfl (hb hby d9_55) k) ?_
                show Aq s₁ 57 #[vi p1] [(.int 95), (.int p1)]
                by_cases c29 : p1 = (95 : Int32)
                · refine Done.step (fun t k => XS.icmpNo X0.here hx rfl (hb hby d9_57) rfl (teq c29).2 k) ?_
                  show Aq s₁ 60 #[vi p1] []
                  refine Done.step (fun t k => XS.iconst X0.here hx rfl (hb hby d9_60) k) ?_
                  show Aq s₁ 61 #[vi p1] [(.int 1)]
                  exact Done.narr X0 hx hlk hret (by simp) (hb hby d9_61) (by decide) (by decide) ⟨by rw [show F9 p1 = (1 : Int32) from by unfold F9; rw [if_neg c1, if_pos c20, if_pos c21, if_neg c22, if_pos c26, if_neg c27, if_neg c28, if_pos c29]] <;> rfl, N0, e0⟩
                · refine Done.step (fun t k => XS.icmpYes X0.here hx rfl (pc0 := 57) (pc' := 62) rfl (hb hby d9_57) rfl (feq c29).2 (by decide) (by decide) k) ?_
                  show Aq s₁ 62 #[vi p1] []
                  refine Done.step (fun t k => XS.iconst X0.here hx rfl (hb hby d9_62) k) ?_
                  show Aq s₁ 63 #[vi p1] [(.int 0)]
                  exact Done.narr X0 hx hlk hret (by simp) (hb hby d9_63) (by decide) (by decide) ⟨by rw [show F9 p1 = (0 : Int32) from by unfold F9; rw [if_neg c1, if_pos c20, if_pos c21, if_neg c22, if_pos c26, if_neg c27, if_neg c28, if_neg c29]] <;> rfl, N0, e0⟩
          · refine Done.step (fun t k => XS.icmpNo X0.here hx rfl (hb hby d9_37) rfl (flt c26).2.2.1 k) ?_
            show Aq s₁ 40 #[vi p1] []
            refine Done.step (fun t k => XS.iconst X0.here hx rfl (hb hby d9_40) k) ?_
            show Aq s₁ 41 #[vi p1] [(.int 1)]
            exact Done.narr X0 hx hlk hret (by simp) (hb hby d9_41) (by decide) (by decide) ⟨by rw [show F9 p1 = (1 : Int32) from by unfold F9; rw [if_neg c1, if_pos c20, if_pos c21, if_neg c22, if_neg c26]] <;> rfl, N0, e0⟩
      · refine Done.step (fun t k => XS.icmpNo X0.here hx rfl (hb hby d9_17) rfl (flt c21).1 k) ?_
        show Aq s₁ 20 #[vi p1] []
        refine Done.step (fun t k => XS.iloadN X0.here hx rfl (hb hby d9_20) rfl k) ?_
        show Aq s₁ 21 #[vi p1] [(.int p1)]
        refine Done.step (fun t k => XS.bipush X0.here hx rfl (hb hby d9_21) k) ?_
        show Aq s₁ 23 #[vi p1] [(.int 90), (.int p1)]
        by_cases c30 : (90 : Int32) < p1
        · refine Done.step (fun t k => XS.icmpYes X0.here hx rfl (pc0 := 23) (pc' := 28) rfl (hb hby d9_23) rfl (tlt c30).2.2.1 (by decide) (by decide) k) ?_
          show Aq s₁ 28 #[vi p1] []
          refine Done.step (fun t k => XS.iloadN X0.here hx rfl (hb hby d9_28) rfl k) ?_
          show Aq s₁ 29 #[vi p1] [(.int p1)]
          refine Done.step (fun t k => XS.bipush X0.here hx rfl (hb hby d9_29) k) ?_
          show Aq s₁ 31 #[vi p1] [(.int 48), (.int p1)]
          by_cases c31 : p1 < (48 : Int32)
          · refine Done.step (fun t k => XS.icmpYes X0.here hx rfl (pc0 := 31) (pc' := 42) rfl (hb hby d9_31) rfl (tlt c31).1 (by decide) (by decide) k) ?_
            show Aq s₁ 42 #[vi p1] []
            refine Done.step (fun t k => XS.iloadN X0.here hx rfl (hb hby d9_42) rfl k) ?_
            show Aq s₁ 43 #[vi p1] [(.int p1)]
            refine Done.step (fun t k => XS.bipush X0.here hx rfl (hb hby d9_43) k) ?_
            show Aq s₁ 45 #[vi p1] [(.int 46), (.int p1)]
            by_cases c32 : p1 = (46 : Int32)
            · refine Done.step (fun t k => XS.icmpYes X0.here hx rfl (pc0 := 45) (pc' := 60) rfl (hb hby d9_45) rfl (teq c32).1 (by decide) (by decide) k) ?_
              show Aq s₁ 60 #[vi p1] []
              refine Done.step (fun t k => XS.iconst X0.here hx rfl (hb hby d9_60) k) ?_
              show Aq s₁ 61 #[vi p1] [(.int 1)]
              exact Done.narr X0 hx hlk hret (by simp) (hb hby d9_61) (by decide) (by decide) ⟨by rw [show F9 p1 = (1 : Int32) from by unfold F9; rw [if_neg c1, if_pos c20, if_neg c21, if_pos c30, if_pos c31, if_pos c32]] <;> rfl, N0, e0⟩
            · refine Done.step (fun t k => XS.icmpNo X0.here hx rfl (hb hby d9_45) rfl (feq c32).1 k) ?_
              show Aq s₁ 48 #[vi p1] []
              refine Done.step (fun t k => XS.iloadN X0.here hx rfl (hb hby d9_48) rfl k) ?_
              show Aq s₁ 49 #[vi p1] [(.int p1)]
              refine Done.step (fun t k => XS.bipush X0.here hx rfl (hb hby d9_49) k) ?_
              show Aq s₁ 51 #[vi p1] [(.int 45), (.int p1)]
              by_cases c33 : p1 = (45 : Int32)
              · refine Done.step (fun t k => XS.icmpYes X0.here hx rfl (pc0 := 51) (pc' := 60) rfl (hb hby d9_51) rfl (teq c33).1 (by decide) (by decide) k) ?_
                show Aq s₁ 60 #[vi p1] []
                refine Done.step (fun t k => XS.iconst X0.here hx rfl (hb hby d9_60) k) ?_
                show Aq s₁ 61 #[vi p1] [(.int 1)]
                exact Done.narr X0 hx hlk hret (by simp) (hb hby d9_61) (by decide) (by decide) ⟨by rw [show F9 p1 = (1 : Int32) from by unfold F9; rw [if_neg c1, if_pos c20, if_neg c21, if_pos c30, if_pos c31, if_neg c32, if_pos c33]] <;> rfl, N0, e0⟩
              · refine Done.step (fun t k => XS.icmpNo X0.here hx rfl (hb hby d9_51) rfl (feq c33).1 k) ?_
                show Aq s₁ 54 #[vi p1] []
                refine Done.step (fun t k => XS.iloadN X0.here hx rfl (hb hby d9_54) rfl k) ?_
                show Aq s₁ 55 #[vi p1] [(.int p1)]
                refine Done.step (fun t k => XS.bipush X0.here hx rfl (hb hby d9_55) k) ?_
                show Aq s₁ 57 #[vi p1] [(.int 95), (.int p1)]
                by_cases c34 : p1 = (95 : Int32)
                · refine Done.step (fun t k => XS.icmpNo X0.here hx rfl (hb hby d9_57) rfl (teq c34).2 k) ?_
                  show Aq s₁ 60 #[vi p1] []
                  refine Done.step (fun t k => XS.iconst X0.here hx rfl (hb hby d9_60) k) ?_
                  show Aq s₁ 61 #[vi p1] [(.int 1)]
                  exact Done.narr X0 hx hlk hret (by simp) (hb hby d9_61) (by decide) (by decide) ⟨by rw [show F9 p1 = (1 : Int32) from by unfold F9; rw [if_neg c1, if_pos c20, if_neg c21, if_pos c30, if_pos c31, if_neg c32, if_neg c33, if_pos c34]] <;> rfl, N0, e0⟩
                · refine Done.step (fun t k => XS.icmpYes X0.here hx rfl (pc0 := 57) (pc' := 62) rfl (hb hby d9_57) rfl (feq c34).2 (by decide) (by decide) k) ?_
                  show Aq s₁ 62 #[vi p1] []
                  refine Done.step (fun t k => XS.iconst X0.here hx rfl (hb hby d9_62) k) ?_
                  show Aq s₁ 63 #[vi p1] [(.int 0)]
                  exact Done.narr X0 hx hlk hret (by simp) (hb hby d9_63) (by decide) (by decide) ⟨by rw [show F9 p1 = (0 : Int32) from by unfold F9; rw [if_neg c1, if_pos c20, if_neg c21, if_pos c30, if_pos c31, if_neg c32, if_neg c33, if_neg c34]] <;> rfl, N0, e0⟩
          · refine Done.step (fun t k => XS.icmpNo X0.here hx rfl (hb hby d9_31) rfl (flt c31).1 k) ?_
            show Aq s₁ 34 #[vi p1] []
            refine Done.step (fun t k => XS.iloadN X0.here hx rfl (hb hby d9_34) rfl k) ?_
            show Aq s₁ 35 #[vi p1] [(.int p1)]
            refine Done.step (fun t k => XS.bipush X0.here hx rfl (hb hby d9_35) k) ?_
            show Aq s₁ 37 #[vi p1] [(.int 57), (.int p1)]
            by_cases c35 : (57 : Int32) < p1
            · refine Done.step (fun t k => XS.icmpYes X0.here hx rfl (pc0 := 37) (pc' := 42) rfl (hb hby d9_37) rfl (tlt c35).2.2.1 (by decide) (by decide) k) ?_
              show Aq s₁ 42 #[vi p1] []
              refine Done.step (fun t k => XS.iloadN X0.here hx rfl (hb hby d9_42) rfl k) ?_
              show Aq s₁ 43 #[vi p1] [(.int p1)]
              refine Done.step (fun t k => XS.bipush X0.here hx rfl (hb hby d9_43) k) ?_
              show Aq s₁ 45 #[vi p1] [(.int 46), (.int p1)]
              by_cases c36 : p1 = (46 : Int32)
              · refine Done.step (fun t k => XS.icmpYes X0.here hx rfl (pc0 := 45) (pc' := 60) rfl (hb hby d9_45) rfl (teq c36).1 (by decide) (by decide) k) ?_
                show Aq s₁ 60 #[vi p1] []
                refine Done.step (fun t k => XS.iconst X0.here hx rfl (hb hby d9_60) k) ?_
                show Aq s₁ 61 #[vi p1] [(.int 1)]
                exact Done.narr X0 hx hlk hret (by simp) (hb hby d9_61) (by decide) (by decide) ⟨by rw [show F9 p1 = (1 : Int32) from by unfold F9; rw [if_neg c1, if_pos c20, if_neg c21, if_pos c30, if_neg c31, if_pos c35, if_pos c36]] <;> rfl, N0, e0⟩
              · refine Done.step (fun t k => XS.icmpNo X0.here hx rfl (hb hby d9_45) rfl (feq c36).1 k) ?_
                show Aq s₁ 48 #[vi p1] []
                refine Done.step (fun t k => XS.iloadN X0.here hx rfl (hb hby d9_48) rfl k) ?_
                show Aq s₁ 49 #[vi p1] [(.int p1)]
                refine Done.step (fun t k => XS.bipush X0.here hx rfl (hb hby d9_49) k) ?_
                show Aq s₁ 51 #[vi p1] [(.int 45), (.int p1)]
                by_cases c37 : p1 = (45 : Int32)
                · refine Done.step (fun t k => XS.icmpYes X0.here hx rfl (pc0 := 51) (pc' := 60) rfl (hb hby d9_51) rfl (teq c37).1 (by decide) (by decide) k) ?_
                  show Aq s₁ 60 #[vi p1] []
                  refine Done.step (fun t k => XS.iconst X0.here hx rfl (hb hby d9_60) k) ?_
                  show Aq s₁ 61 #[vi p1] [(.int 1)]
                  exact Done.narr X0 hx hlk hret (by simp) (hb hby d9_61) (by decide) (by decide) ⟨by rw [show F9 p1 = (1 : Int32) from by unfold F9; rw [if_neg c1, if_pos c20, if_neg c21, if_pos c30, if_neg c31, if_pos c35, if_neg c36, if_pos c37]] <;> rfl, N0, e0⟩
                · refine Done.step (fun t k => XS.icmpNo X0.here hx rfl (hb hby d9_51) rfl (feq c37).1 k) ?_
                  show Aq s₁ 54 #[vi p1] []
                  refine Done.step (fun t k => XS.iloadN X0.here hx rfl (hb hby d9_54) rfl k) ?_
                  show Aq s₁ 55 #[vi p1] [(.int p1)]
                  refine Done.step (fun t k => XS.bipush X0.here hx rfl (hb hby d9_55) k) ?_
                  show Aq s₁ 57 #[vi p1] [(.int 95), (.int p1)]
                  by_cases c38 : p1 = (95 : Int32)
                  · refine Done.step (fun t k => XS.icmpNo X0.here hx rfl (hb hby d9_57) rfl (teq c38).2 k) ?_
                    show Aq s₁ 60 #[vi p1] []
                    refine Done.step (fun t k => XS.iconst X0.here hx rfl (hb hby d9_60) k) ?_
                    show Aq s₁ 61 #[vi p1] [(.int 1)]
                    exact Done.narr X0 hx hlk hret (by simp) (hb hby d9_61) (by decide) (by decide) ⟨by rw [show F9 p1 = (1 : Int32) from by unfold F9; rw [if_neg c1, if_pos c20, if_neg c21, if_pos c30, if_neg c31, if_pos c35, if_neg c36, if_neg c37, if_pos c38]] <;> rfl, N0, e0⟩
                  · refine Done.step (fun t k => XS.icmpYes X0.here hx rfl (pc0 := 57) (pc' := 62) rfl (hb hby d9_57) rfl (feq c38).2 (by decide) (by decide) k) ?_
                    show Aq s₁ 62 #[vi p1] []
                    refine Done.step (fun t k => XS.iconst X0.here hx rfl (hb hby d9_62) k) ?_
                    show Aq s₁ 63 #[vi p1] [(.int 0)]
                    exact Done.narr X0 hx hlk hret (by simp) (hb hby d9_63) (by decide) (by decide) ⟨by rw [show F9 p1 = (0 : Int32) from by unfold F9; rw [if_neg c1, if_pos c20, if_neg c21, if_pos c30, if_neg c31, if_pos c35, if_neg c36, if_neg c37, if_neg c38]] <;> rfl, N0, e0⟩
            · refine Done.step (fun t k => XS.icmpNo X0.here hx rfl (hb hby d9_37) rfl (flt c35).2.2.1 k) ?_
              show Aq s₁ 40 #[vi p1] []
              refine Done.step (fun t k => XS.iconst X0.here hx rfl (hb hby d9_40) k) ?_
              show Aq s₁ 41 #[vi p1] [(.int 1)]
              exact Done.narr X0 hx hlk hret (by simp) (hb hby d9_41) (by decide) (by decide) ⟨by rw [show F9 p1 = (1 : Int32) from by unfold F9; rw [if_neg c1, if_pos c20, if_neg c21, if_pos c30, if_neg c31, if_neg c35]] <;> rfl, N0, e0⟩
        · refine Done.step (fun t k => XS.icmpNo X0.here hx rfl (hb hby d9_23) rfl (flt c30).2.2.1 k) ?_
          show Aq s₁ 26 #[vi p1] []
          refine Done.step (fun t k => XS.iconst X0.here hx rfl (hb hby d9_26) k) ?_
          show Aq s₁ 27 #[vi p1] [(.int 1)]
          exact Done.narr X0 hx hlk hret (by simp) (hb hby d9_27) (by decide) (by decide) ⟨by rw [show F9 p1 = (1 : Int32) from by unfold F9; rw [if_neg c1, if_pos c20, if_neg c21, if_neg c30]] <;> rfl, N0, e0⟩
    · refine Done.step (fun t k => XS.icmpNo X0.here hx rfl (hb hby d9_9) rfl (flt c20).2.2.1 k) ?_
      show Aq s₁ 12 #[vi p1] []
      refine Done.step (fun t k => XS.iconst X0.here hx rfl (hb hby d9_12) k) ?_
      show Aq s₁ 13 #[vi p1] [(.int 1)]
      exact Done.narr X0 hx hlk hret (by simp) (hb hby d9_13) (by decide) (by decide) ⟨by rw [show F9 p1 = (1 : Int32) from by unfold F9; rw [if_neg c1, if_neg c20]] <;> rfl, N0, e0⟩
theorem d17_0 : dq cd1 0 (.iload_n 0) 1 := by decide +kernel
theorem d17_1 : dq cd1 1 (.ifCond .lt 8) 3 := by decide +kernel
theorem d17_4 : dq cd1 4 (.iload_n 0) 1 := by decide +kernel
theorem d17_5 : dq cd1 5 (.iload_n 1) 1 := by decide +kernel
theorem d17_6 : dq cd1 6 (.if_icmp .lt 10) 3 := by decide +kernel
theorem d17_16 : dq cd1 16 (.iload_n 0) 1 := by decide +kernel
theorem d17_17 : dq cd1 17 .ireturn 1 := by decide +kernel
theorem pnx0_17 : plainName "jdk/internal/util/Preconditions" = true := by first | (simp [plainName, overriddenIn]; done) | decide +kernel
theorem efx0_17 (m : MethodId) (p1 : Int32) (p2 : Int32) : entryFrame m #[(.int p1), (.int p2), .null] 3 = mkF m 0 #[vi p1, vi p2, .val .null] [] := by first | (simp [entryFrame, mkF, argsToLocals, Value.category]; done) | rfl
def Qrmpc0 (Z : State) (p1 : Int32) (p2 : Int32) (h0 : Heap) (n0 : Nat) : Option Value → Heap → List Loc → Prop := fun v h L => v = some (.int p1) ∧ Fr n0 L ∧ h = h0
set_option maxRecDepth 65536 in
set_option maxHeartbeats 40000000 in
theorem rmpc0 (l : Launch) (Z : State) (a0 : Array Value) (hw : HH a0 Z) (ws : List Jvm.Cond) (p1 : Int32) (p2 : Int32) (h0 : Heap) (n0 : Nat) (Z0 : n0 ≤ h0.size) (h1 : ¬ p1 < (0 : Int32)) (h2 : p1 < p2) :
    MetFree l (⟨"jdk/internal/util/Preconditions", "checkIndex", "(IILjava/util/function/BiFunction;)I"⟩ : MethodName) (head1 (Jvm.Cond.code (⟨"jdk/internal/util/Preconditions", "checkIndex", "(IILjava/util/function/BiFunction;)I"⟩ : MethodName) jdk_41_method_11_code 3 (some .int) :: ws) ({ frames := 0, cells := 0, slots := 0, locals := 0 } : Room)) (fun a U => a = #[(.int p1), (.int p2), .null] ∧ Z.Warmed39 U.vm ∧ U.heap = h0) (fun _ _ _ _ _ => True) (fun _ U o U' => ∃ v L, o = .returned v ∧ Qrmpc0 Z p1 p2 h0 n0 v U'.heap L ∧ FrameEnd U o U' L ({ frames := 0, cells := 0, slots := 0, locals := 0 } : Room).cells ({ frames := 0, cells := 0, slots := 0, locals := 0 } : Room).slots) := by
  refine MetFree.of_bodySF (plainFor_of_name pnx0_17) hisR ?_
  intro p e s m args below meth c s₁ Bd hml0 hP hK
  obtain ⟨rfl, hZ, hhp⟩ := hP
  have hx := Bd.exec
  have hby := Bd.bytes
  have hml : c.maxLocals = 3 := hml0
  have hown : s.vm.findClass "jdk/internal/util/Preconditions" = some m.cls := findClass_of_methodNamed Bd.named
  have hnm := (name_of_methodNamed Bd.named Bd.method).1
  have hlk : meth.locks = false := BodyLoose.notSynchronized Bd
  have hret := Bd.returns
  have X0 : Stand p l e ({ frames := 0, cells := 0, slots := 0, locals := 0 } : Room) s m #[(.int p1), (.int p2), .null] below meth c s₁ [] 0 0 := Stand.of_body Bd
  have e0 : s₁.heap = h0 := by rw [← hhp, Bd.state]; rfl
  have N0 := Fr.nil n0
  show Done p e below s (Qrmpc0 Z p1 p2 h0 n0) ({ frames := 0, cells := 0, slots := 0, locals := 0 } : Room).cells ({ frames := 0, cells := 0, slots := 0, locals := 0 } : Room).slots (s₁.setTop (entryFrame m #[(.int p1), (.int p2), .null] 3))
  refine Done.step (fun t k => castTop (efx0_17 m p1 p2) k) ?_
  show Aq s₁ 0 #[vi p1, vi p2, .val .null] []
  refine Done.step (fun t k => XS.iloadN X0.here hx rfl (hb hby d17_0) rfl k) ?_
  show Aq s₁ 1 #[vi p1, vi p2, .val .null] [(.int p1)]
  refine Done.step (fun t k => XS.ifNo X0.here hx rfl (hb hby d17_1) rfl ((if0 _ _).trans (flt h1).1) k) ?_
  show Aq s₁ 4 #[vi p1, vi p2, .val .null] []
  refine Done.step (fun t k => XS.iloadN X0.here hx rfl (hb hby d17_4) rfl k) ?_
  show Aq s₁ 5 #[vi p1, vi p2, .val .null] [(.int p1)]
  refine Done.step (fun t k => XS.iloadN X0.here hx rfl (hb hby d17_5) rfl k) ?_
  show Aq s₁ 6 #[vi p1, vi p2, .val .null] [(.int p2), (.int p1)]
  refine Done.step (fun t k => XS.icmpYes X0.here hx rfl (pc0 := 6) (pc' := 16) rfl (hb hby d17_6) rfl (tlt h2).1 (by decide) (by decide) k) ?_
  show Aq s₁ 16 #[vi p1, vi p2, .val .null] []
  refine Done.step (fun t k => XS.iloadN X0.here hx rfl (hb hby d17_16) rfl k) ?_
  show Aq s₁ 17 #[vi p1, vi p2, .val .null] [(.int p1)]
  exact Done.int X0 hx hlk hret (hb hby d17_17) (by decide) (by decide) ⟨rfl, N0, e0⟩
theorem pnx1_17 : plainName "jdk/internal/util/Preconditions" = true := by first | (simp [plainName, overriddenIn]; done) | decide +kernel
theorem efx1_17 (m : MethodId) (p1 : Int32) (p2 : Int32) (a3 : Addr) : entryFrame m #[(.int p1), (.int p2), (.ref a3)] 3 = mkF m 0 #[vi p1, vi p2, vr a3] [] := by first | (simp [entryFrame, mkF, argsToLocals, Value.category]; done) | rfl
def Qrmpc1 (Z : State) (p1 : Int32) (p2 : Int32) (a3 : Addr) (h0 : Heap) (n0 : Nat) : Option Value → Heap → List Loc → Prop := fun v h L => v = some (.int p1) ∧ Fr n0 L ∧ h = h0
set_option maxRecDepth 65536 in
set_option maxHeartbeats 40000000 in
theorem rmpc1 (l : Launch) (Z : State) (a0 : Array Value) (hw : HH a0 Z) (ws : List Jvm.Cond) (p1 : Int32) (p2 : Int32) (a3 : Addr) (h0 : Heap) (n0 : Nat) (Z0 : n0 ≤ h0.size) (h1 : ¬ p1 < (0 : Int32)) (h2 : p1 < p2) :
    MetFree l (⟨"jdk/internal/util/Preconditions", "checkIndex", "(IILjava/util/function/BiFunction;)I"⟩ : MethodName) (head1 (Jvm.Cond.code (⟨"jdk/internal/util/Preconditions", "checkIndex", "(IILjava/util/function/BiFunction;)I"⟩ : MethodName) jdk_41_method_11_code 3 (some .int) :: ws) ({ frames := 0, cells := 0, slots := 0, locals := 0 } : Room)) (fun a U => a = #[(.int p1), (.int p2), (.ref a3)] ∧ Z.Warmed39 U.vm ∧ U.heap = h0) (fun _ _ _ _ _ => True) (fun _ U o U' => ∃ v L, o = .returned v ∧ Qrmpc1 Z p1 p2 a3 h0 n0 v U'.heap L ∧ FrameEnd U o U' L ({ frames := 0, cells := 0, slots := 0, locals := 0 } : Room).cells ({ frames := 0, cells := 0, slots := 0, locals := 0 } : Room).slots) := by
  refine MetFree.of_bodySF (plainFor_of_name pnx1_17) hisR ?_
  intro p e s m args below meth c s₁ Bd hml0 hP hK
  obtain ⟨rfl, hZ, hhp⟩ := hP
  have hx := Bd.exec
  have hby := Bd.bytes
  have hml : c.maxLocals = 3 := hml0
  have hown : s.vm.findClass "jdk/internal/util/Preconditions" = some m.cls := findClass_of_methodNamed Bd.named
  have hnm := (name_of_methodNamed Bd.named Bd.method).1
  have hlk : meth.locks = false := BodyLoose.notSynchronized Bd
  have hret := Bd.returns
  have X0 : Stand p l e ({ frames := 0, cells := 0, slots := 0, locals := 0 } : Room) s m #[(.int p1), (.int p2), (.ref a3)] below meth c s₁ [] 0 0 := Stand.of_body Bd
  have e0 : s₁.heap = h0 := by rw [← hhp, Bd.state]; rfl
  have N0 := Fr.nil n0
  show Done p e below s (Qrmpc1 Z p1 p2 a3 h0 n0) ({ frames := 0, cells := 0, slots := 0, locals := 0 } : Room).cells ({ frames := 0, cells := 0, slots := 0, locals := 0 } : Room).slots (s₁.setTop (entryFrame m #[(.int p1), (.int p2), (.ref a3)] 3))
  refine Done.step (fun t k => castTop (efx1_17 m p1 p2 a3) k) ?_
  show Aq s₁ 0 #[vi p1, vi p2, vr a3] []
  refine Done.step (fun t k => XS.iloadN X0.here hx rfl (hb hby d17_0) rfl k) ?_
  show Aq s₁ 1 #[vi p1, vi p2, vr a3] [(.int p1)]
  refine Done.step (fun t k => XS.ifNo X0.here hx rfl (hb hby d17_1) rfl ((if0 _ _).trans (flt h1).1) k) ?_
  show Aq s₁ 4 #[vi p1, vi p2, vr a3] []
  refine Done.step (fun t k => XS.iloadN X0.here hx rfl (hb hby d17_4) rfl k) ?_
  show Aq s₁ 5 #[vi p1, vi p2, vr a3] [(.int p1)]
  refine Done.step (fun t k => XS.iloadN X0.here hx rfl (hb hby d17_5) rfl k) ?_
  show Aq s₁ 6 #[vi p1, vi p2, vr a3] [(.int p2), (.int p1)]
  refine Done.step (fun t k => XS.icmpYes X0.here hx rfl (pc0 := 6) (pc' := 16) rfl (hb hby d17_6) rfl (tlt h2).1 (by decide) (by decide) k) ?_
  show Aq s₁ 16 #[vi p1, vi p2, vr a3] []
  refine Done.step (fun t k => XS.iloadN X0.here hx rfl (hb hby d17_16) rfl k) ?_
  show Aq s₁ 17 #[vi p1, vi p2, vr a3] [(.int p1)]
  exact Done.int X0 hx hlk hret (hb hby d17_17) (by decide) (by decide) ⟨rfl, N0, e0⟩
theorem d16_0 : dq cd2 0 (.iload_n 0) 1 := by decide +kernel
theorem d16_1 : dq cd2 1 (.iload_n 1) 1 := by decide +kernel
theorem d16_2 : dq cd2 2 (.getstatic 1053) 3 := by decide +kernel
theorem d16_5 : dq cd2 5 (.invokestatic 1059) 3 := by decide +kernel
theorem d16_8 : dq cd2 8 .pop 1 := by decide +kernel
theorem d16_9 : dq cd2 9 .return_ 1 := by decide +kernel
theorem pn_16 : plainName "java/lang/String" = true := by first | (simp [plainName, overriddenIn]; done) | decide +kernel
theorem ef_16 (m : MethodId) (p1 : Int32) (p2 : Int32) : entryFrame m #[(.int p1), (.int p2)] 2 = mkF m 0 #[.val (.int p1), .val (.int p2)] [] := by first | (simp [entryFrame, mkF, argsToLocals, Value.category]; done) | rfl
def Qrm16 (Z : State) (p1 : Int32) (p2 : Int32) (sv : Value) (h0 : Heap) (n0 : Nat) : Option Value → Heap → List Loc → Prop := fun v h L => v = none ∧ Fr n0 L ∧ h = h0
set_option maxRecDepth 65536 in
set_option maxHeartbeats 40000000 in
theorem rm16 (l : Launch) (Z : State) (a0 : Array Value) (hw : HH a0 Z) (ws : List Jvm.Cond) (p1 : Int32) (p2 : Int32) (sv : Value) (h0 : Heap) (n0 : Nat) (Z0 : n0 ≤ h0.size) (h1 : ¬ p1 < (0 : Int32)) (h2 : p1 < p2) (Ssx : Sta Z h0 "jdk/internal/util/Preconditions" "SIOOBE_FORMATTER" "Ljava/util/function/BiFunction;" sv) (hsv : sv.isRef = true) :
    MetFree l (⟨"java/lang/String", "checkIndex", "(II)V"⟩ : MethodName) (head1 (Jvm.Cond.code (⟨"java/lang/String", "checkIndex", "(II)V"⟩ : MethodName) jdk_42_method_155_code 2 none :: ws) ({ frames := 1, cells := 0, slots := 0, locals := 14 } : Room)) (fun a U => a = #[(.int p1), (.int p2)] ∧ Z.Warmed39 U.vm ∧ U.heap = h0) (fun _ _ _ _ _ => True) (fun _ U o U' => ∃ v L, o = .returned v ∧ Qrm16 Z p1 p2 sv h0 n0 v U'.heap L ∧ FrameEnd U o U' L ({ frames := 1, cells := 0, slots := 0, locals := 14 } : Room).cells ({ frames := 1, cells := 0, slots := 0, locals := 14 } : Room).slots) := by
  refine MetFree.of_bodySF (plainFor_of_name pn_16) hisR ?_
  intro p e s m args below meth c s₁ Bd hml0 hP hK
  obtain ⟨rfl, hZ, hhp⟩ := hP
  have hx := Bd.exec
  have hby := Bd.bytes
  have hml : c.maxLocals = 2 := hml0
  have hown : s.vm.findClass "java/lang/String" = some m.cls := findClass_of_methodNamed Bd.named
  have hnm := (name_of_methodNamed Bd.named Bd.method).1
  have hlk : meth.locks = false := BodyLoose.notSynchronized Bd
  have hret := Bd.returns
  have X0 : Stand p l e ({ frames := 1, cells := 0, slots := 0, locals := 14 } : Room) s m #[(.int p1), (.int p2)] below meth c s₁ [] 0 0 := Stand.of_body Bd
  have e0 : s₁.heap = h0 := by rw [← hhp, Bd.state]; rfl
  have N0 := Fr.nil n0
  show Done p e below s (Qrm16 Z p1 p2 sv h0 n0) ({ frames := 1, cells := 0, slots := 0, locals := 14 } : Room).cells ({ frames := 1, cells := 0, slots := 0, locals := 14 } : Room).slots (s₁.setTop (entryFrame m #[(.int p1), (.int p2)] 2))
  refine Done.step (fun t k => castTop (ef_16 m p1 p2) k) ?_
  rcases ref_cases hsv with rfl | ⟨sx, rfl⟩
  · show Aq s₁ 0 #[vi p1, vi p2] []
    refine Done.step (fun t k => XS.iloadN X0.here hx rfl (hb hby d16_0) rfl k) ?_
    show Aq s₁ 1 #[vi p1, vi p2] [(.int p1)]
    refine Done.step (fun t k => XS.iloadN X0.here hx rfl (hb hby d16_1) rfl k) ?_
    show Aq s₁ 2 #[vi p1, vi p2] [(.int p2), (.int p1)]
    obtain ⟨T101, X101, e101, st101⟩ := getS2 X0 hx hZ hown (host := "") (Or.inl (tw78 hw)) Via.refl e0 Ssx (g := (mkF m 2 #[vi p1, vi p2] [(.int p2), (.int p1)])) rfl (hb hby d16_2)
    refine Done.step st101 ?_
    show Aq T101 5 #[vi p1, vi p2] [.null, (.int p2), (.int p1)]
    obtain ⟨v102, _, ⟨T102, L102, k102, n102⟩, -, X102, ⟨Lc102, hQ102, l102, y102, z102⟩, st102⟩ := Jvm.LawKit.callS X101 hx (y := (⟨"jdk/internal/util/Preconditions", "checkIndex", "(IILjava/util/function/BiFunction;)I"⟩ : MethodName)) hown (mvT hZ (tw80 hw)) (mvT hZ (tw81 hw)) (mvT hZ (tw79 hw)) (mvT hZ (tw82 hw)) (by decide) (backOf (W := 0) (rmpc0 l Z a0 hw [] p1 p2  h0 n0 Z0 h1 h2) hZ (tw82 hw) (tw79 hw) (by decide) (by decide)) (g := (mkF m 5 #[vi p1, vi p2] [.null, (.int p2), (.int p1)])) rfl (by rw [hml]; rfl) (argsL := [(.int p1), (.int p2), .null]) (rest := []) (lenOf pd_0 rfl) rfl (by show 2 * 0 + _ ≤ _; exact Nat.le_of_eq rfl) (hb hby d16_5) (fun _ _ => ⟨rfl, e101, (by decide : 0 + 0 ≤ _), (by decide : 0 + 0 ≤ _)⟩)
    dsimp only [Pt.U, Pt.locs, Pt.cells, Pt.slots] at X102 l102 y102 z102 st102 hQ102
    subst l102 y102 z102
    refine Done.step st102 ?_
    obtain ⟨rfl, N102q, e102⟩ := hQ102
    have N102 := Fr.app N0 N102q
    show Aq T102 8 #[vi p1, vi p2] [(.int p1)]
    refine Done.step (fun t k => XS.pop X102.here hx rfl (hb hby d16_8) rfl rfl k) ?_
    show Aq T102 9 #[vi p1, vi p2] []
    exact Done.void X102 hx hlk hret (hb hby d16_9) (by decide) (by decide) ⟨rfl, N102, e102⟩
  · show Aq s₁ 0 #[vi p1, vi p2] []
    refine Done.step (fun t k => XS.iloadN X0.here hx rfl (hb hby d16_0) rfl k) ?_
    show Aq s₁ 1 #[vi p1, vi p2] [(.int p1)]
    refine Done.step (fun t k => XS.iloadN X0.here hx rfl (hb hby d16_1) rfl k) ?_
    show Aq s₁ 2 #[vi p1, vi p2] [(.int p2), (.int p1)]
    obtain ⟨T103, X103, e103, st103⟩ := getS2 X0 hx hZ hown (host := "") (Or.inl (tw78 hw)) Via.refl e0 Ssx (g := (mkF m 2 #[vi p1, vi p2] [(.int p2), (.int p1)])) rfl (hb hby d16_2)
    refine Done.step st103 ?_
    show Aq T103 5 #[vi p1, vi p2] [(.ref sx), (.int p2), (.int p1)]
    obtain ⟨v104, _, ⟨T104, L104, k104, n104⟩, -, X104, ⟨Lc104, hQ104, l104, y104, z104⟩, st104⟩ := Jvm.LawKit.callS X103 hx (y := (⟨"jdk/internal/util/Preconditions", "checkIndex", "(IILjava/util/function/BiFunction;)I"⟩ : MethodName)) hown (mvT hZ (tw80 hw)) (mvT hZ (tw81 hw)) (mvT hZ (tw79 hw)) (mvT hZ (tw82 hw)) (by decide) (backOf (W := 0) (rmpc1 l Z a0 hw [] p1 p2 sx  h0 n0 Z0 h1 h2) hZ (tw82 hw) (tw79 hw) (by decide) (by decide)) (g := (mkF m 5 #[vi p1, vi p2] [(.ref sx), (.int p2), (.int p1)])) rfl (by rw [hml]; rfl) (argsL := [(.int p1), (.int p2), (.ref sx)]) (rest := []) (lenOf pd_0 rfl) rfl (by show 2 * 0 + _ ≤ _; exact Nat.le_of_eq rfl) (hb hby d16_5) (fun _ _ => ⟨rfl, e103, (by decide : 0 + 0 ≤ _), (by decide : 0 + 0 ≤ _)⟩)
    dsimp only [Pt.U, Pt.locs, Pt.cells, Pt.slots] at X104 l104 y104 z104 st104 hQ104
    subst l104 y104 z104
    refine Done.step st104 ?_
    obtain ⟨rfl, N104q, e104⟩ := hQ104
    have N104 := Fr.app N0 N104q
    show Aq T104 8 #[vi p1, vi p2] [(.int p1)]
    refine Done.step (fun t k => XS.pop X104.here hx rfl (hb hby d16_8) rfl rfl k) ?_
    show Aq T104 9 #[vi p1, vi p2] []
    exact Done.void X104 hx hlk hret (hb hby d16_9) (by decide) (by decide) ⟨rfl, N104, e104⟩
theorem d25_0 : dq cd3 0 (.aload_n 0) 1 := by decide +kernel
theorem d25_1 : dq cd3 1 .arraylength 1 := by decide +kernel
theorem d25_2 : dq cd3 2 (.iconst 1) 1 := by decide +kernel
theorem d25_3 : dq cd3 3 .ishr 1 := by decide +kernel
theorem d25_4 : dq cd3 4 .ireturn 1 := by decide +kernel
theorem pn_25 : plainName "java/lang/StringUTF16" = true := by first | (simp [plainName, overriddenIn]; done) | decide +kernel
theorem ef_25 (m : MethodId) (a1 : Addr) : entryFrame m #[(.ref a1)] 1 = mkF m 0 #[.val (.ref a1)] [] := by first | (simp [entryFrame, mkF, argsToLocals, Value.category]; done) | rfl
def Qrm25 (Z : State) (a1 : Addr) (vs : List Value) (mI : Int32) (h0 : Heap) (n0 : Nat) : Option Value → Heap → List Loc → Prop := fun v h L => v = some (.int (mI >>> ((1 : Int32) &&& 31))) ∧ Fr n0 L ∧ h = h0
set_option maxRecDepth 65536 in
set_option maxHeartbeats 40000000 in
theorem rm25 (l : Launch) (Z : State) (a0 : Array Value) (hw : HH a0 Z) (ws : List Jvm.Cond) (a1 : Addr) (vs : List Value) (mI : Int32) (h0 : Heap) (n0 : Nat) (Z0 : n0 ≤ h0.size) (A1 : Ax Z h0 a1 .byte vs) (hl : vs.length.toInt32 = mI) :
    MetFree l (⟨"java/lang/StringUTF16", "length", "([B)I"⟩ : MethodName) (head1 (Jvm.Cond.code (⟨"java/lang/StringUTF16", "length", "([B)I"⟩ : MethodName) jdk_52_method_6_code 1 (some .int) :: ws) ({ frames := 0, cells := 0, slots := 0, locals := 0 } : Room)) (fun a U => a = #[(.ref a1)] ∧ Z.Warmed39 U.vm ∧ U.heap = h0) (fun _ _ _ _ _ => True) (fun _ U o U' => ∃ v L, o = .returned v ∧ Qrm25 Z a1 vs mI h0 n0 v U'.heap L ∧ FrameEnd U o U' L ({ frames := 0, cells := 0, slots := 0, locals := 0 } : Room).cells ({ frames := 0, cells := 0, slots := 0, locals := 0 } : Room).slots) := by
  refine MetFree.of_bodySF (plainFor_of_name pn_25) hisR ?_
  intro p e s m args below meth c s₁ Bd hml0 hP hK
  obtain ⟨rfl, hZ, hhp⟩ := hP
  have hx := Bd.exec
  have hby := Bd.bytes
  have hml : c.maxLocals = 1 := hml0
  have hown : s.vm.findClass "java/lang/StringUTF16" = some m.cls := findClass_of_methodNamed Bd.named
  have hnm := (name_of_methodNamed Bd.named Bd.method).1
  have hlk : meth.locks = false := BodyLoose.notSynchronized Bd
  have hret := Bd.returns
  have X0 : Stand p l e ({ frames := 0, cells := 0, slots := 0, locals := 0 } : Room) s m #[(.ref a1)] below meth c s₁ [] 0 0 := Stand.of_body Bd
  have e0 : s₁.heap = h0 := by rw [← hhp, Bd.state]; rfl
  have N0 := Fr.nil n0
  show Done p e below s (Qrm25 Z a1 vs mI h0 n0) ({ frames := 0, cells := 0, slots := 0, locals := 0 } : Room).cells ({ frames := 0, cells := 0, slots := 0, locals := 0 } : Room).slots (s₁.setTop (entryFrame m #[(.ref a1)] 1))
  refine Done.step (fun t k => castTop (ef_25 m a1) k) ?_
  show Aq s₁ 0 #[vr a1] []
  refine Done.step (fun t k => XS.aloadN X0.here hx rfl (hb hby d25_0) rfl rfl k) ?_
  show Aq s₁ 1 #[vr a1] [(.ref a1)]
  refine Done.step (lenA X0 hx hZ e0 A1 (n := mI) hl (g := (mkF m 1 #[vr a1] [(.ref a1)])) rfl rfl (hb hby d25_1)) ?_
  show Aq s₁ 2 #[vr a1] [(.int mI)]
  refine Done.step (fun t k => XS.iconst X0.here hx rfl (hb hby d25_2) k) ?_
  show Aq s₁ 3 #[vr a1] [(.int 1), (.int mI)]
  refine Done.step (fun t k => XS.ishr X0.here hx rfl (hb hby d25_3) rfl k) ?_
  show Aq s₁ 4 #[vr a1] [(.int (mI >>> ((1 : Int32) &&& 31)))]
  exact Done.int X0 hx hlk hret (hb hby d25_4) (by decide) (by decide) ⟨rfl, N0, e0⟩
theorem d24_0 : dq cd4 0 (.iload_n 0) 1 := by decide +kernel
theorem d24_1 : dq cd4 1 (.aload_n 1) 1 := by decide +kernel
theorem d24_2 : dq cd4 2 (.invokestatic 48) 3 := by decide +kernel
theorem d24_5 : dq cd4 5 (.invokestatic 414) 3 := by decide +kernel
theorem d24_8 : dq cd4 8 .return_ 1 := by decide +kernel
theorem pn_24 : plainName "java/lang/StringUTF16" = true := by first | (simp [plainName, overriddenIn]; done) | decide +kernel
theorem ef_24 (m : MethodId) (p1 : Int32) (a2 : Addr) : entryFrame m #[(.int p1), (.ref a2)] 2 = mkF m 0 #[.val (.int p1), .val (.ref a2)] [] := by first | (simp [entryFrame, mkF, argsToLocals, Value.category]; done) | rfl
def Qrm24 (Z : State) (p1 : Int32) (a2 : Addr) (vs : List Value) (mI : Int32) (sv : Value) (h0 : Heap) (n0 : Nat) : Option Value → Heap → List Loc → Prop := fun v h L => v = none ∧ Fr n0 L ∧ h = h0
set_option maxRecDepth 65536 in
set_option maxHeartbeats 40000000 in
theorem rm24 (l : Launch) (Z : State) (a0 : Array Value) (hw : HH a0 Z) (ws : List Jvm.Cond) (p1 : Int32) (a2 : Addr) (vs : List Value) (mI : Int32) (sv : Value) (h0 : Heap) (n0 : Nat) (Z0 : n0 ≤ h0.size) (A1 : Ax Z h0 a2 .byte vs) (hl : vs.length.toInt32 = mI) (Ssx : Sta Z h0 "jdk/internal/util/Preconditions" "SIOOBE_FORMATTER" "Ljava/util/function/BiFunction;" sv) (hsv : sv.isRef = true) (h1 : ¬ p1 < (0 : Int32)) (h2 : p1 < (mI >>> ((1 : Int32) &&& 31))) :
    MetFree l (⟨"java/lang/StringUTF16", "checkIndex", "(I[B)V"⟩ : MethodName) (head1 (Jvm.Cond.code (⟨"java/lang/StringUTF16", "checkIndex", "(I[B)V"⟩ : MethodName) jdk_52_method_91_code 2 none :: ws) ({ frames := 2, cells := 0, slots := 0, locals := 27 } : Room)) (fun a U => a = #[(.int p1), (.ref a2)] ∧ Z.Warmed39 U.vm ∧ U.heap = h0) (fun _ _ _ _ _ => True) (fun _ U o U' => ∃ v L, o = .returned v ∧ Qrm24 Z p1 a2 vs mI sv h0 n0 v U'.heap L ∧ FrameEnd U o U' L ({ frames := 2, cells := 0, slots := 0, locals := 27 } : Room).cells ({ frames := 2, cells := 0, slots := 0, locals := 27 } : Room).slots) := by
  refine MetFree.of_bodySF (plainFor_of_name pn_24) hisR ?_
  intro p e s m args below meth c s₁ Bd hml0 hP hK
  obtain ⟨rfl, hZ, hhp⟩ := hP
  have hx := Bd.exec
  have hby := Bd.bytes
  have hml : c.maxLocals = 2 := hml0
  have hown : s.vm.findClass "java/lang/StringUTF16" = some m.cls := findClass_of_methodNamed Bd.named
  have hnm := (name_of_methodNamed Bd.named Bd.method).1
  have hlk : meth.locks = false := BodyLoose.notSynchronized Bd
  have hret := Bd.returns
  have X0 : Stand p l e ({ frames := 2, cells := 0, slots := 0, locals := 27 } : Room) s m #[(.int p1), (.ref a2)] below meth c s₁ [] 0 0 := Stand.of_body Bd
  have e0 : s₁.heap = h0 := by rw [← hhp, Bd.state]; rfl
  have N0 := Fr.nil n0
  show Done p e below s (Qrm24 Z p1 a2 vs mI sv h0 n0) ({ frames := 2, cells := 0, slots := 0, locals := 27 } : Room).cells ({ frames := 2, cells := 0, slots := 0, locals := 27 } : Room).slots (s₁.setTop (entryFrame m #[(.int p1), (.ref a2)] 2))
  refine Done.step (fun t k => castTop (ef_24 m p1 a2) k) ?_
  show Aq s₁ 0 #[vi p1, vr a2] []
  refine Done.step (fun t k => XS.iloadN X0.here hx rfl (hb hby d24_0) rfl k) ?_
  show Aq s₁ 1 #[vi p1, vr a2] [(.int p1)]
  refine Done.step (fun t k => XS.aloadN X0.here hx rfl (hb hby d24_1) rfl rfl k) ?_
  show Aq s₁ 2 #[vi p1, vr a2] [(.ref a2), (.int p1)]
  obtain ⟨v101, _, ⟨T101, L101, k101, n101⟩, -, X101, ⟨Lc101, hQ101, l101, y101, z101⟩, st101⟩ := Jvm.LawKit.callS X0 hx (y := (⟨"java/lang/StringUTF16", "length", "([B)I"⟩ : MethodName)) hown (mvT hZ (tw108 hw)) (mvT hZ (tw109 hw)) (mvT hZ (tw35 hw)) (mvT hZ (tw110 hw)) (by decide) (backOf (W := 1) (rm25 l Z a0 hw [] a2 vs mI h0 n0 Z0 A1 hl) hZ (tw110 hw) (tw35 hw) (by decide) (by decide)) (g := (mkF m 2 #[vi p1, vr a2] [(.ref a2), (.int p1)])) rfl (by rw [hml]; rfl) (argsL := [(.ref a2)]) (rest := [(.int p1)]) (lenOf pd_1 rfl) rfl (by show 2 * 0 + _ ≤ _; exact Nat.le_of_eq rfl) (hb hby d24_2) (fun _ _ => ⟨rfl, e0, (by decide : 0 + 0 ≤ _), (by decide : 0 + 0 ≤ _)⟩)
  dsimp only [Pt.U, Pt.locs, Pt.cells, Pt.slots] at X101 l101 y101 z101 st101 hQ101
  subst l101 y101 z101
  refine Done.step st101 ?_
  obtain ⟨rfl, N101q, e101⟩ := hQ101
  have N101 := Fr.app N0 N101q
  show Aq T101 5 #[vi p1, vr a2] [(.int (mI >>> ((1 : Int32) &&& 31))), (.int p1)]
  obtain ⟨v102, _, ⟨T102, L102, k102, n102⟩, -, X102, ⟨Lc102, hQ102, l102, y102, z102⟩, st102⟩ := Jvm.LawKit.callS X101 hx (y := (⟨"java/lang/String", "checkIndex", "(II)V"⟩ : MethodName)) hown (mvT hZ (tw111 hw)) (mvT hZ (tw76 hw)) (mvT hZ (tw3 hw)) (mvT hZ (tw77 hw)) (by decide) (backOf (W := 0) (rm16 l Z a0 hw [] p1 (mI >>> ((1 : Int32) &&& 31)) sv h0 n0 Z0 h1 h2 Ssx hsv) hZ (tw77 hw) (tw3 hw) (by decide) (by decide)) (g := (mkF m 5 #[vi p1, vr a2] [(.int (mI >>> ((1 : Int32) &&& 31))), (.int p1)])) rfl (by rw [hml]; rfl) (argsL := [(.int p1), (.int (mI >>> ((1 : Int32) &&& 31)))]) (rest := []) (lenOf pd_2 rfl) rfl (by show 2 * 0 + _ ≤ _; exact Nat.le_of_eq rfl) (hb hby d24_5) (fun _ _ => ⟨rfl, e101, (by decide : 0 + 0 ≤ _), (by decide : 0 + 0 ≤ _)⟩)
  dsimp only [Pt.U, Pt.locs, Pt.cells, Pt.slots] at X102 l102 y102 z102 st102 hQ102
  subst l102 y102 z102
  refine Done.step st102 ?_
  obtain ⟨rfl, N102q, e102⟩ := hQ102
  have N102 := Fr.app N101 N102q
  show Aq T102 8 #[vi p1, vr a2] []
  exact Done.void X102 hx hlk hret (hb hby d24_8) (by decide) (by decide) ⟨rfl, N102, e102⟩
theorem d22_0 : dq cd5 0 (.getstatic 44) 3 := by decide +kernel
theorem d22_3 : dq cd5 3 (.ifCond .ne 25) 3 := by decide +kernel
theorem d22_28 : dq cd5 28 (.iload_n 1) 1 := by decide +kernel
theorem d22_29 : dq cd5 29 (.iconst 1) 1 := by decide +kernel
theorem d22_30 : dq cd5 30 .ishl 1 := by decide +kernel
theorem d22_31 : dq cd5 31 (.istore_n 1) 1 := by decide +kernel
theorem d22_32 : dq cd5 32 (.aload_n 0) 1 := by decide +kernel
theorem d22_33 : dq cd5 33 (.iload_n 1) 1 := by decide +kernel
theorem d22_34 : dq cd5 34 (.iinc 1 1) 3 := by decide +kernel
theorem d22_37 : dq cd5 37 .baload 1 := by decide +kernel
theorem d22_38 : dq cd5 38 (.sipush 255) 3 := by decide +kernel
theorem d22_41 : dq cd5 41 .iand 1 := by decide +kernel
theorem d22_42 : dq cd5 42 (.getstatic 59) 3 := by decide +kernel
theorem d22_45 : dq cd5 45 .ishl 1 := by decide +kernel
theorem d22_46 : dq cd5 46 (.aload_n 0) 1 := by decide +kernel
theorem d22_47 : dq cd5 47 (.iload_n 1) 1 := by decide +kernel
theorem d22_48 : dq cd5 48 .baload 1 := by decide +kernel
theorem d22_49 : dq cd5 49 (.sipush 255) 3 := by decide +kernel
theorem d22_52 : dq cd5 52 .iand 1 := by decide +kernel
theorem d22_53 : dq cd5 53 (.getstatic 63) 3 := by decide +kernel
theorem d22_56 : dq cd5 56 .ishl 1 := by decide +kernel
theorem d22_57 : dq cd5 57 .ior 1 := by decide +kernel
theorem d22_58 : dq cd5 58 .i2c 1 := by decide +kernel
theorem d22_59 : dq cd5 59 .ireturn 1 := by decide +kernel
theorem pn_22 : plainName "java/lang/StringUTF16" = true := by first | (simp [plainName, overriddenIn]; done) | decide +kernel
theorem ef_22 (m : MethodId) (a1 : Addr) (p2 : Int32) : entryFrame m #[(.ref a1), (.int p2)] 2 = mkF m 0 #[.val (.ref a1), .val (.int p2)] [] := by first | (simp [entryFrame, mkF, argsToLocals, Value.category]; done) | rfl
def Qrm22 (Z : State) (a1 : Addr) (p2 : Int32) (vs : List Value) (ii : Nat) (x0 x1 : Int32) (h0 : Heap) (n0 : Nat) : Option Value → Heap → List Loc → Prop := fun v h L => v = some (.int (GC x0 x1)) ∧ Fr n0 L ∧ h = h0
set_option maxRecDepth 65536 in
set_option maxHeartbeats 40000000 in
theorem rm22 (l : Launch) (Z : State) (a0 : Array Value) (hw : HH a0 Z) (ws : List Jvm.Cond) (a1 : Addr) (p2 : Int32) (vs : List Value) (ii : Nat) (x0 x1 : Int32) (h0 : Heap) (n0 : Nat) (Z0 : n0 ≤ h0.size) (A1 : Ax Z h0 a1 .byte vs) (Sad : Sta Z h0 "java/lang/StringUTF16" "$assertionsDisabled" "Z" (.int 1)) (Shi : Sta Z h0 "java/lang/StringUTF16" "HI_BYTE_SHIFT" "I" (.int 0)) (Slo : Sta Z h0 "java/lang/StringUTF16" "LO_BYTE_SHIFT" "I" (.int 8)) (hp : p2.toInt = (ii : Int)) (hbd : ii ≤ 1000) (g0 : vs[2 * ii]? = some (.int x0)) (g1 : vs[2 * ii + 1]? = some (.int x1)) :
    MetFree l (⟨"java/lang/StringUTF16", "getChar", "([BI)C"⟩ : MethodName) (head1 (Jvm.Cond.code (⟨"java/lang/StringUTF16", "getChar", "([BI)C"⟩ : MethodName) jdk_52_method_5_code 2 (some .char) :: ws) ({ frames := 0, cells := 0, slots := 0, locals := 0 } : Room)) (fun a U => a = #[(.ref a1), (.int p2)] ∧ Z.Warmed39 U.vm ∧ U.heap = h0) (fun _ _ _ _ _ => True) (fun _ U o U' => ∃ v L, o = .returned v ∧ Qrm22 Z a1 p2 vs ii x0 x1 h0 n0 v U'.heap L ∧ FrameEnd U o U' L ({ frames := 0, cells := 0, slots := 0, locals := 0 } : Room).cells ({ frames := 0, cells := 0, slots := 0, locals := 0 } : Room).slots) := by
  refine MetFree.of_bodySF (plainFor_of_name pn_22) hisR ?_
  intro p e s m args below meth c s₁ Bd hml0 hP hK
  obtain ⟨rfl, hZ, hhp⟩ := hP
  have hx := Bd.exec
  have hby := Bd.bytes
  have hml : c.maxLocals = 2 := hml0
  have hown : s.vm.findClass "java/lang/StringUTF16" = some m.cls := findClass_of_methodNamed Bd.named
  have hnm := (name_of_methodNamed Bd.named Bd.method).1
  have hlk : meth.locks = false := BodyLoose.notSynchronized Bd
  have hret := Bd.returns
  have X0 : Stand p l e ({ frames := 0, cells := 0, slots := 0, locals := 0 } : Room) s m #[(.ref a1), (.int p2)] below meth c s₁ [] 0 0 := Stand.of_body Bd
  have e0 : s₁.heap = h0 := by rw [← hhp, Bd.state]; rfl
  have N0 := Fr.nil n0
  show Done p e below s (Qrm22 Z a1 p2 vs ii x0 x1 h0 n0) ({ frames := 0, cells := 0, slots := 0, locals := 0 } : Room).cells ({ frames := 0, cells := 0, slots := 0, locals := 0 } : Room).slots (s₁.setTop (entryFrame m #[(.ref a1), (.int p2)] 2))
  refine Done.step (fun t k => castTop (ef_22 m a1 p2) k) ?_
  show Aq s₁ 0 #[vr a1, vi p2] []
  obtain ⟨T101, X101, e101, st101⟩ := getS2 X0 hx hZ hown (host := "") (Or.inl (tw96 hw)) Via.refl e0 Sad (g := (mkF m 0 #[vr a1, vi p2] [])) rfl (hb hby d22_0)
  refine Done.step st101 ?_
  show Aq T101 3 #[vr a1, vi p2] [(.int 1)]
  refine Done.step (fun t k => XS.ifYes X101.here hx rfl (pc0 := 3) (pc' := 28) rfl (hb hby d22_3) rfl ((if0 _ _).trans (feq (by decide)).2) (by decide) (by decide) k) ?_
  show Aq T101 28 #[vr a1, vi p2] []
  refine Done.step (fun t k => XS.iloadN X101.here hx rfl (hb hby d22_28) rfl k) ?_
  show Aq T101 29 #[vr a1, vi p2] [(.int p2)]
  refine Done.step (fun t k => XS.iconst X101.here hx rfl (hb hby d22_29) k) ?_
  show Aq T101 30 #[vr a1, vi p2] [(.int 1), (.int p2)]
  refine Done.step (fun t k => XS.ishl X101.here hx rfl (hb hby d22_30) rfl k) ?_
  show Aq T101 31 #[vr a1, vi p2] [(.int (p2 <<< ((1 : Int32) &&& 31)))]
  refine Done.step (fun t k => XS.istoreN X101.here hx rfl (hb hby d22_31) rfl (l' := #[vr a1, vi (p2 <<< ((1 : Int32) &&& 31))]) rfl k) ?_
  show Aq T101 32 #[vr a1, vi (p2 <<< ((1 : Int32) &&& 31))] []
  refine Done.step (fun t k => XS.aloadN X101.here hx rfl (hb hby d22_32) rfl rfl k) ?_
  show Aq T101 33 #[vr a1, vi (p2 <<< ((1 : Int32) &&& 31))] [(.ref a1)]
  refine Done.step (fun t k => XS.iloadN X101.here hx rfl (hb hby d22_33) rfl k) ?_
  show Aq T101 34 #[vr a1, vi (p2 <<< ((1 : Int32) &&& 31))] [(.int (p2 <<< ((1 : Int32) &&& 31))), (.ref a1)]
  refine Done.step (fun t k => XS.iinc X101.here hx rfl (hb hby d22_34) rfl (l' := #[vr a1, vi ((p2 <<< ((1 : Int32) &&& 31)) + (1 : Int32))]) rfl k) ?_
  show Aq T101 37 #[vr a1, vi ((p2 <<< ((1 : Int32) &&& 31)) + (1 : Int32))] [(.int (p2 <<< ((1 : Int32) &&& 31))), (.ref a1)]
  have hj0 : ((p2 <<< ((1 : Int32) &&& 31))).toInt = ((2 * ii : Nat) : Int) := own_shl hp hbd
  refine Done.step (ldB X101 hx hZ e101 A1 (j := (p2 <<< ((1 : Int32) &&& 31))) (x := (.int x0)) (own_nneg hj0) (by rw [own_cl hj0]; exact g0) (g := (mkF m 37 #[vr a1, vi ((p2 <<< ((1 : Int32) &&& 31)) + (1 : Int32))] [(.int (p2 <<< ((1 : Int32) &&& 31))), (.ref a1)])) rfl rfl (hb hby d22_37)) ?_
  show Aq T101 38 #[vr a1, vi ((p2 <<< ((1 : Int32) &&& 31)) + (1 : Int32))] [(.int x0)]
  refine Done.step (fun t k => XS.sipush X101.here hx rfl (hb hby d22_38) k) ?_
  show Aq T101 41 #[vr a1, vi ((p2 <<< ((1 : Int32) &&& 31)) + (1 : Int32))] [(.int 255), (.int x0)]
  refine Done.step (fun t k => XS.iand X101.here hx rfl (hb hby d22_41) rfl k) ?_
  show Aq T101 42 #[vr a1, vi ((p2 <<< ((1 : Int32) &&& 31)) + (1 : Int32))] [(.int (x0 &&& (255 : Int32)))]
  obtain ⟨T102, X102, e102, st102⟩ := getS2 X101 hx hZ hown (host := "") (Or.inl (tw97 hw)) Via.refl e101 Shi (g := (mkF m 42 #[vr a1, vi ((p2 <<< ((1 : Int32) &&& 31)) + (1 : Int32))] [(.int (x0 &&& (255 : Int32)))])) rfl (hb hby d22_42)
  refine Done.step st102 ?_
  show Aq T102 45 #[vr a1, vi ((p2 <<< ((1 : Int32) &&& 31)) + (1 : Int32))] [(.int 0), (.int (x0 &&& (255 : Int32)))]
  refine Done.step (fun t k => XS.ishl X102.here hx rfl (hb hby d22_45) rfl k) ?_
  show Aq T102 46 #[vr a1, vi ((p2 <<< ((1 : Int32) &&& 31)) + (1 : Int32))] [(.int ((x0 &&& (255 : Int32)) <<< ((0 : Int32) &&& 31)))]
  refine Done.step (fun t k => XS.aloadN X102.here hx rfl (hb hby d22_46) rfl rfl k) ?_
  show Aq T102 47 #[vr a1, vi ((p2 <<< ((1 : Int32) &&& 31)) + (1 : Int32))] [(.ref a1), (.int ((x0 &&& (255 : Int32)) <<< ((0 : Int32) &&& 31)))]
  refine Done.step (fun t k => XS.iloadN X102.here hx rfl (hb hby d22_47) rfl k) ?_
  show Aq T102 48 #[vr a1, vi ((p2 <<< ((1 : Int32) &&& 31)) + (1 : Int32))] [(.int ((p2 <<< ((1 : Int32) &&& 31)) + (1 : Int32))), (.ref a1), (.int ((x0 &&& (255 : Int32)) <<< ((0 : Int32) &&& 31)))]
  have hj1 : (((p2 <<< ((1 : Int32) &&& 31)) + (1 : Int32))).toInt = ((2 * ii + 1 : Nat) : Int) := own_inc (own_shl hp hbd) (by omega)
  refine Done.step (ldB X102 hx hZ e102 A1 (j := ((p2 <<< ((1 : Int32) &&& 31)) + (1 : Int32))) (x := (.int x1)) (own_nneg hj1) (by rw [own_cl hj1]; exact g1) (g := (mkF m 48 #[vr a1, vi ((p2 <<< ((1 : Int32) &&& 31)) + (1 : Int32))] [(.int ((p2 <<< ((1 : Int32) &&& 31)) + (1 : Int32))), (.ref a1), (.int ((x0 &&& (255 : Int32)) <<< ((0 : Int32) &&& 31)))])) rfl rfl (hb hby d22_48)) ?_
  show Aq T102 49 #[vr a1, vi ((p2 <<< ((1 : Int32) &&& 31)) + (1 : Int32))] [(.int x1), (.int ((x0 &&& (255 : Int32)) <<< ((0 : Int32) &&& 31)))]
  refine Done.step (fun t k => XS.sipush X102.here hx rfl (hb hby d22_49) k) ?_
  show Aq T102 52 #[vr a1, vi ((p2 <<< ((1 : Int32) &&& 31)) + (1 : Int32))] [(.int 255), (.int x1), (.int ((x0 &&& (255 : Int32)) <<< ((0 : Int32) &&& 31)))]
  refine Done.step (fun t k => XS.iand X102.here hx rfl (hb hby d22_52) rfl k) ?_
  show Aq T102 53 #[vr a1, vi ((p2 <<< ((1 : Int32) &&& 31)) + (1 : Int32))] [(.int (x1 &&& (255 : Int32))), (.int ((x0 &&& (255 : Int32)) <<< ((0 : Int32) &&& 31)))]
  obtain ⟨T103, X103, e103, st103⟩ := getS2 X102 hx hZ hown (host := "") (Or.inl (tw98 hw)) Via.refl e102 Slo (g := (mkF m 53 #[vr a1, vi ((p2 <<< ((1 : Int32) &&& 31)) + (1 : Int32))] [(.int (x1 &&& (255 : Int32))), (.int ((x0 &&& (255 : Int32)) <<< ((0 : Int32) &&& 31)))])) rfl (hb hby d22_53)
  refine Done.step st103 ?_
  show Aq T103 56 #[vr a1, vi ((p2 <<< ((1 : Int32) &&& 31)) + (1 : Int32))] [(.int 8), (.int (x1 &&& (255 : Int32))), (.int ((x0 &&& (255 : Int32)) <<< ((0 : Int32) &&& 31)))]
  refine Done.step (fun t k => XS.ishl X103.here hx rfl (hb hby d22_56) rfl k) ?_
  show Aq T103 57 #[vr a1, vi ((p2 <<< ((1 : Int32) &&& 31)) + (1 : Int32))] [(.int ((x1 &&& (255 : Int32)) <<< ((8 : Int32) &&& 31))), (.int ((x0 &&& (255 : Int32)) <<< ((0 : Int32) &&& 31)))]
  refine Done.step (fun t k => XS.ior X103.here hx rfl (hb hby d22_57) rfl k) ?_
  show Aq T103 58 #[vr a1, vi ((p2 <<< ((1 : Int32) &&& 31)) + (1 : Int32))] [(.int (((x0 &&& (255 : Int32)) <<< ((0 : Int32) &&& 31)) ||| ((x1 &&& (255 : Int32)) <<< ((8 : Int32) &&& 31))))]
  refine Done.step (fun t k => XS.i2c X103.here hx rfl (hb hby d22_58) rfl k) ?_
  show Aq T103 59 #[vr a1, vi ((p2 <<< ((1 : Int32) &&& 31)) + (1 : Int32))] [(.int ((((x0 &&& (255 : Int32)) <<< ((0 : Int32) &&& 31)) ||| ((x1 &&& (255 : Int32)) <<< ((8 : Int32) &&& 31)))).toUInt32.toUInt16.toUInt32.toInt32)]
  exact Done.narr X103 hx hlk hret (by simp) (hb hby d22_59) (by decide) (by decide) ⟨rfl, N0, e103⟩
theorem own_gcn (x y : Int32) : nar .char (GC x y) = GC x y := by
  exact own_ncc _
theorem d23_0 : dq cd6 0 (.iload_n 1) 1 := by decide +kernel
theorem d23_1 : dq cd6 1 (.aload_n 0) 1 := by decide +kernel
theorem d23_2 : dq cd6 2 (.invokestatic 67) 3 := by decide +kernel
theorem d23_5 : dq cd6 5 (.aload_n 0) 1 := by decide +kernel
theorem d23_6 : dq cd6 6 (.iload_n 1) 1 := by decide +kernel
theorem d23_7 : dq cd6 7 (.invokestatic 71) 3 := by decide +kernel
theorem d23_10 : dq cd6 10 .ireturn 1 := by decide +kernel
theorem pn_23 : plainName "java/lang/StringUTF16" = true := by first | (simp [plainName, overriddenIn]; done) | decide +kernel
theorem ef_23 (m : MethodId) (a1 : Addr) (p2 : Int32) : entryFrame m #[(.ref a1), (.int p2)] 2 = mkF m 0 #[.val (.ref a1), .val (.int p2)] [] := by first | (simp [entryFrame, mkF, argsToLocals, Value.category]; done) | rfl
def Qrm23 (Z : State) (a1 : Addr) (p2 : Int32) (vs : List Value) (mI : Int32) (sv : Value) (ii : Nat) (x0 x1 : Int32) (h0 : Heap) (n0 : Nat) : Option Value → Heap → List Loc → Prop := fun v h L => v = some (.int (GC x0 x1)) ∧ Fr n0 L ∧ h = h0
set_option maxRecDepth 65536 in
set_option maxHeartbeats 40000000 in
theorem rm23 (l : Launch) (Z : State) (a0 : Array Value) (hw : HH a0 Z) (ws : List Jvm.Cond) (a1 : Addr) (p2 : Int32) (vs : List Value) (mI : Int32) (sv : Value) (ii : Nat) (x0 x1 : Int32) (h0 : Heap) (n0 : Nat) (Z0 : n0 ≤ h0.size) (A1 : Ax Z h0 a1 .byte vs) (hl : vs.length.toInt32 = mI) (Ssx : Sta Z h0 "jdk/internal/util/Preconditions" "SIOOBE_FORMATTER" "Ljava/util/function/BiFunction;" sv) (hsv : sv.isRef = true) (Sad : Sta Z h0 "java/lang/StringUTF16" "$assertionsDisabled" "Z" (.int 1)) (Shi : Sta Z h0 "java/lang/StringUTF16" "HI_BYTE_SHIFT" "I" (.int 0)) (Slo : Sta Z h0 "java/lang/StringUTF16" "LO_BYTE_SHIFT" "I" (.int 8)) (h1 : ¬ p2 < (0 : Int32)) (h2 : p2 < (mI >>> ((1 : Int32) &&& 31))) (hp : p2.toInt = (ii : Int)) (hbd : ii ≤ 1000) (g0 : vs[2 * ii]? = some (.int x0)) (g1 : vs[2 * ii + 1]? = some (.int x1)) :
    MetFree l (⟨"java/lang/StringUTF16", "charAt", "([BI)C"⟩ : MethodName) (head1 (Jvm.Cond.code (⟨"java/lang/StringUTF16", "charAt", "([BI)C"⟩ : MethodName) jdk_52_method_83_code 2 (some .char) :: ws) ({ frames := 3, cells := 0, slots := 0, locals := 40 } : Room)) (fun a U => a = #[(.ref a1), (.int p2)] ∧ Z.Warmed39 U.vm ∧ U.heap = h0) (fun _ _ _ _ _ => True) (fun _ U o U' => ∃ v L, o = .returned v ∧ Qrm23 Z a1 p2 vs mI sv ii x0 x1 h0 n0 v U'.heap L ∧ FrameEnd U o U' L ({ frames := 3, cells := 0, slots := 0, locals := 40 } : Room).cells ({ frames := 3, cells := 0, slots := 0, locals := 40 } : Room).slots) := by
  refine MetFree.of_bodySF (plainFor_of_name pn_23) hisR ?_
  intro p e s m args below meth c s₁ Bd hml0 hP hK
  obtain ⟨rfl, hZ, hhp⟩ := hP
  have hx := Bd.exec
  have hby := Bd.bytes
  have hml : c.maxLocals = 2 := hml0
  have hown : s.vm.findClass "java/lang/StringUTF16" = some m.cls := findClass_of_methodNamed Bd.named
  have hnm := (name_of_methodNamed Bd.named Bd.method).1
  have hlk : meth.locks = false := BodyLoose.notSynchronized Bd
  have hret := Bd.returns
  have X0 : Stand p l e ({ frames := 3, cells := 0, slots := 0, locals := 40 } : Room) s m #[(.ref a1), (.int p2)] below meth c s₁ [] 0 0 := Stand.of_body Bd
  have e0 : s₁.heap = h0 := by rw [← hhp, Bd.state]; rfl
  have N0 := Fr.nil n0
  show Done p e below s (Qrm23 Z a1 p2 vs mI sv ii x0 x1 h0 n0) ({ frames := 3, cells := 0, slots := 0, locals := 40 } : Room).cells ({ frames := 3, cells := 0, slots := 0, locals := 40 } : Room).slots (s₁.setTop (entryFrame m #[(.ref a1), (.int p2)] 2))
  refine Done.step (fun t k => castTop (ef_23 m a1 p2) k) ?_
  show Aq s₁ 0 #[vr a1, vi p2] []
  refine Done.step (fun t k => XS.iloadN X0.here hx rfl (hb hby d23_0) rfl k) ?_
  show Aq s₁ 1 #[vr a1, vi p2] [(.int p2)]
  refine Done.step (fun t k => XS.aloadN X0.here hx rfl (hb hby d23_1) rfl rfl k) ?_
  show Aq s₁ 2 #[vr a1, vi p2] [(.ref a1), (.int p2)]
  obtain ⟨v101, _, ⟨T101, L101, k101, n101⟩, -, X101, ⟨Lc101, hQ101, l101, y101, z101⟩, st101⟩ := Jvm.LawKit.callS X0 hx (y := (⟨"java/lang/StringUTF16", "checkIndex", "(I[B)V"⟩ : MethodName)) hown (mvT hZ (tw105 hw)) (mvT hZ (tw106 hw)) (mvT hZ (tw35 hw)) (mvT hZ (tw107 hw)) (by decide) (backOf (W := 0) (rm24 l Z a0 hw [] p2 a1 vs mI sv h0 n0 Z0 A1 hl Ssx hsv h1 h2) hZ (tw107 hw) (tw35 hw) (by decide) (by decide)) (g := (mkF m 2 #[vr a1, vi p2] [(.ref a1), (.int p2)])) rfl (by rw [hml]; rfl) (argsL := [(.int p2), (.ref a1)]) (rest := []) (lenOf pd_3 rfl) rfl (by show 2 * 0 + _ ≤ _; exact Nat.le_of_eq rfl) (hb hby d23_2) (fun _ _ => ⟨rfl, e0, (by decide : 0 + 0 ≤ _), (by decide : 0 + 0 ≤ _)⟩)
  dsimp only [Pt.U, Pt.locs, Pt.cells, Pt.slots] at X101 l101 y101 z101 st101 hQ101
  subst l101 y101 z101
  refine Done.step st101 ?_
  obtain ⟨rfl, N101q, e101⟩ := hQ101
  have N101 := Fr.app N0 N101q
  show Aq T101 5 #[vr a1, vi p2] []
  refine Done.step (fun t k => XS.aloadN X101.here hx rfl (hb hby d23_5) rfl rfl k) ?_
  show Aq T101 6 #[vr a1, vi p2] [(.ref a1)]
  refine Done.step (fun t k => XS.iloadN X101.here hx rfl (hb hby d23_6) rfl k) ?_
  show Aq T101 7 #[vr a1, vi p2] [(.int p2), (.ref a1)]
  obtain ⟨v102, _, ⟨T102, L102, k102, n102⟩, -, X102, ⟨Lc102, hQ102, l102, y102, z102⟩, st102⟩ := Jvm.LawKit.callS X101 hx (y := (⟨"java/lang/StringUTF16", "getChar", "([BI)C"⟩ : MethodName)) hown (mvT hZ (tw99 hw)) (mvT hZ (tw100 hw)) (mvT hZ (tw35 hw)) (mvT hZ (tw101 hw)) (by decide) (backOf (W := 0) (rm22 l Z a0 hw [] a1 p2 vs ii x0 x1 h0 n0 Z0 A1 Sad Shi Slo hp hbd g0 g1) hZ (tw101 hw) (tw35 hw) (by decide) (by decide)) (g := (mkF m 7 #[vr a1, vi p2] [(.int p2), (.ref a1)])) rfl (by rw [hml]; rfl) (argsL := [(.ref a1), (.int p2)]) (rest := []) (lenOf pd_4 rfl) rfl (by show 2 * 0 + _ ≤ _; exact Nat.le_of_eq rfl) (hb hby d23_7) (fun _ _ => ⟨rfl, e101, (by decide : 0 + 0 ≤ _), (by decide : 0 + 0 ≤ _)⟩)
  dsimp only [Pt.U, Pt.locs, Pt.cells, Pt.slots] at X102 l102 y102 z102 st102 hQ102
  subst l102 y102 z102
  refine Done.step st102 ?_
  obtain ⟨rfl, N102q, e102⟩ := hQ102
  have N102 := Fr.app N101 N102q
  show Aq T102 10 #[vr a1, vi p2] [(.int (GC x0 x1))]
  exact Done.narr X102 hx hlk hret (by simp) (hb hby d23_10) (by decide) (by decide) ⟨by rw [own_gcn], N102, e102⟩
def LC (x : Int32) : Int32 := nar .char ((x &&& (255 : Int32)).toUInt32.toUInt16.toUInt32.toInt32)
theorem d15_0 : dq cd7 0 (.iload_n 1) 1 := by decide +kernel
theorem d15_1 : dq cd7 1 (.aload_n 0) 1 := by decide +kernel
theorem d15_2 : dq cd7 2 .arraylength 1 := by decide +kernel
theorem d15_3 : dq cd7 3 (.invokestatic 9) 3 := by decide +kernel
theorem d15_6 : dq cd7 6 (.aload_n 0) 1 := by decide +kernel
theorem d15_7 : dq cd7 7 (.iload_n 1) 1 := by decide +kernel
theorem d15_8 : dq cd7 8 .baload 1 := by decide +kernel
theorem d15_9 : dq cd7 9 (.sipush 255) 3 := by decide +kernel
theorem d15_12 : dq cd7 12 .iand 1 := by decide +kernel
theorem d15_13 : dq cd7 13 .i2c 1 := by decide +kernel
theorem d15_14 : dq cd7 14 .ireturn 1 := by decide +kernel
theorem pn_15 : plainName "java/lang/StringLatin1" = true := by first | (simp [plainName, overriddenIn]; done) | decide +kernel
theorem ef_15 (m : MethodId) (a1 : Addr) (p2 : Int32) : entryFrame m #[(.ref a1), (.int p2)] 2 = mkF m 0 #[.val (.ref a1), .val (.int p2)] [] := by first | (simp [entryFrame, mkF, argsToLocals, Value.category]; done) | rfl
def Qrm15 (Z : State) (a1 : Addr) (p2 : Int32) (vs : List Value) (mI : Int32) (sv : Value) (ii : Nat) (x0 : Int32) (h0 : Heap) (n0 : Nat) : Option Value → Heap → List Loc → Prop := fun v h L => v = some (.int (LC x0)) ∧ Fr n0 L ∧ h = h0
set_option maxRecDepth 65536 in
set_option maxHeartbeats 40000000 in
theorem rm15 (l : Launch) (Z : State) (a0 : Array Value) (hw : HH a0 Z) (ws : List Jvm.Cond) (a1 : Addr) (p2 : Int32) (vs : List Value) (mI : Int32) (sv : Value) (ii : Nat) (x0 : Int32) (h0 : Heap) (n0 : Nat) (Z0 : n0 ≤ h0.size) (A1 : Ax Z h0 a1 .byte vs) (hl : vs.length.toInt32 = mI) (Ssx : Sta Z h0 "jdk/internal/util/Preconditions" "SIOOBE_FORMATTER" "Ljava/util/function/BiFunction;" sv) (hsv : sv.isRef = true) (h1 : ¬ p2 < (0 : Int32)) (h2 : p2 < mI) (hp : p2.toInt = (ii : Int)) (g0 : vs[ii]? = some (.int x0)) :
    MetFree l (⟨"java/lang/StringLatin1", "charAt", "([BI)C"⟩ : MethodName) (head1 (Jvm.Cond.code (⟨"java/lang/StringLatin1", "charAt", "([BI)C"⟩ : MethodName) jdk_43_method_2_code 2 (some .char) :: ws) ({ frames := 2, cells := 0, slots := 0, locals := 27 } : Room)) (fun a U => a = #[(.ref a1), (.int p2)] ∧ Z.Warmed39 U.vm ∧ U.heap = h0) (fun _ _ _ _ _ => True) (fun _ U o U' => ∃ v L, o = .returned v ∧ Qrm15 Z a1 p2 vs mI sv ii x0 h0 n0 v U'.heap L ∧ FrameEnd U o U' L ({ frames := 2, cells := 0, slots := 0, locals := 27 } : Room).cells ({ frames := 2, cells := 0, slots := 0, locals := 27 } : Room).slots) := by
  refine MetFree.of_bodySF (plainFor_of_name pn_15) hisR ?_
  intro p e s m args below meth c s₁ Bd hml0 hP hK
  obtain ⟨rfl, hZ, hhp⟩ := hP
  have hx := Bd.exec
  have hby := Bd.bytes
  have hml : c.maxLocals = 2 := hml0
  have hown : s.vm.findClass "java/lang/StringLatin1" = some m.cls := findClass_of_methodNamed Bd.named
  have hnm := (name_of_methodNamed Bd.named Bd.method).1
  have hlk : meth.locks = false := BodyLoose.notSynchronized Bd
  have hret := Bd.returns
  have X0 : Stand p l e ({ frames := 2, cells := 0, slots := 0, locals := 27 } : Room) s m #[(.ref a1), (.int p2)] below meth c s₁ [] 0 0 := Stand.of_body Bd
  have e0 : s₁.heap = h0 := by rw [← hhp, Bd.state]; rfl
  have N0 := Fr.nil n0
  show Done p e below s (Qrm15 Z a1 p2 vs mI sv ii x0 h0 n0) ({ frames := 2, cells := 0, slots := 0, locals := 27 } : Room).cells ({ frames := 2, cells := 0, slots := 0, locals := 27 } : Room).slots (s₁.setTop (entryFrame m #[(.ref a1), (.int p2)] 2))
  refine Done.step (fun t k => castTop (ef_15 m a1 p2) k) ?_
  show Aq s₁ 0 #[vr a1, vi p2] []
  refine Done.step (fun t k => XS.iloadN X0.here hx rfl (hb hby d15_0) rfl k) ?_
  show Aq s₁ 1 #[vr a1, vi p2] [(.int p2)]
  refine Done.step (fun t k => XS.aloadN X0.here hx rfl (hb hby d15_1) rfl rfl k) ?_
  show Aq s₁ 2 #[vr a1, vi p2] [(.ref a1), (.int p2)]
  refine Done.step (lenA X0 hx hZ e0 A1 (n := mI) hl (g := (mkF m 2 #[vr a1, vi p2] [(.ref a1), (.int p2)])) rfl rfl (hb hby d15_2)) ?_
  show Aq s₁ 3 #[vr a1, vi p2] [(.int mI), (.int p2)]
  obtain ⟨v101, _, ⟨T101, L101, k101, n101⟩, -, X101, ⟨Lc101, hQ101, l101, y101, z101⟩, st101⟩ := Jvm.LawKit.callS X0 hx (y := (⟨"java/lang/String", "checkIndex", "(II)V"⟩ : MethodName)) hown (mvT hZ (tw75 hw)) (mvT hZ (tw76 hw)) (mvT hZ (tw3 hw)) (mvT hZ (tw77 hw)) (by decide) (backOf (W := 0) (rm16 l Z a0 hw [] p2 mI sv h0 n0 Z0 h1 h2 Ssx hsv) hZ (tw77 hw) (tw3 hw) (by decide) (by decide)) (g := (mkF m 3 #[vr a1, vi p2] [(.int mI), (.int p2)])) rfl (by rw [hml]; rfl) (argsL := [(.int p2), (.int mI)]) (rest := []) (lenOf pd_2 rfl) rfl (by show 2 * 0 + _ ≤ _; exact Nat.le_of_eq rfl) (hb hby d15_3) (fun _ _ => ⟨rfl, e0, (by decide : 0 + 0 ≤ _), (by decide : 0 + 0 ≤ _)⟩)
  dsimp only [Pt.U, Pt.locs, Pt.cells, Pt.slots] at X101 l101 y101 z101 st101 hQ101
  subst l101 y101 z101
  refine Done.step st101 ?_
  obtain ⟨rfl, N101q, e101⟩ := hQ101
  have N101 := Fr.app N0 N101q
  show Aq T101 6 #[vr a1, vi p2] []
  refine Done.step (fun t k => XS.aloadN X101.here hx rfl (hb hby d15_6) rfl rfl k) ?_
  show Aq T101 7 #[vr a1, vi p2] [(.ref a1)]
  refine Done.step (fun t k => XS.iloadN X101.here hx rfl (hb hby d15_7) rfl k) ?_
  show Aq T101 8 #[vr a1, vi p2] [(.int p2), (.ref a1)]
  refine Done.step (ldB X101 hx hZ e101 A1 (j := p2) (x := (.int x0)) (own_nneg hp) (by rw [own_cl hp]; exact g0) (g := (mkF m 8 #[vr a1, vi p2] [(.int p2), (.ref a1)])) rfl rfl (hb hby d15_8)) ?_
  show Aq T101 9 #[vr a1, vi p2] [(.int x0)]
  refine Done.step (fun t k => XS.sipush X101.here hx rfl (hb hby d15_9) k) ?_
  show Aq T101 12 #[vr a1, vi p2] [(.int 255), (.int x0)]
  refine Done.step (fun t k => XS.iand X101.here hx rfl (hb hby d15_12) rfl k) ?_
  show Aq T101 13 #[vr a1, vi p2] [(.int (x0 &&& (255 : Int32)))]
  refine Done.step (fun t k => XS.i2c X101.here hx rfl (hb hby d15_13) rfl k) ?_
  show Aq T101 14 #[vr a1, vi p2] [(.int ((x0 &&& (255 : Int32))).toUInt32.toUInt16.toUInt32.toInt32)]
  exact Done.narr X101 hx hlk hret (by simp) (hb hby d15_14) (by decide) (by decide) ⟨rfl, N101, e101⟩
theorem d11_0 : dq cd8 0 (.getstatic 38) 3 := by decide +kernel
theorem d11_3 : dq cd8 3 (.ifCond .eq 10) 3 := by decide +kernel
theorem d11_6 : dq cd8 6 (.aload_n 0) 1 := by decide +kernel
theorem d11_7 : dq cd8 7 (.getfield 15) 3 := by decide +kernel
theorem d11_10 : dq cd8 10 (.goto 4) 3 := by decide +kernel
theorem d11_14 : dq cd8 14 .ireturn 1 := by decide +kernel
theorem pn_11 : plainName "java/lang/String" = true := by first | (simp [plainName, overriddenIn]; done) | decide +kernel
theorem ef_11 (m : MethodId) (a1 : Addr) : entryFrame m #[(.ref a1)] 1 = mkF m 0 #[.val (.ref a1)] [] := by first | (simp [entryFrame, mkF, argsToLocals, Value.category]; done) | rfl
def Qrm11 (Z : State) (a1 : Addr) (kk cs : Int32) (h0 : Heap) (n0 : Nat) : Option Value → Heap → List Loc → Prop := fun v h L => v = some (.int kk) ∧ Fr n0 L ∧ h = h0
set_option maxRecDepth 65536 in
set_option maxHeartbeats 40000000 in
theorem rm11 (l : Launch) (Z : State) (a0 : Array Value) (hw : HH a0 Z) (ws : List Jvm.Cond) (a1 : Addr) (kk cs : Int32) (h0 : Heap) (n0 : Nat) (Z0 : n0 ≤ h0.size) (F2 : Fl0 Z h0 a1 (.int kk)) (Scs : Sta Z h0 "java/lang/String" "COMPACT_STRINGS" "Z" (.int cs)) (hcs : ¬ cs = (0 : Int32)) (hk : nar .byte kk = kk) :
    MetFree l (⟨"java/lang/String", "coder", "()B"⟩ : MethodName) (head1 (Jvm.Cond.code (⟨"java/lang/String", "coder", "()B"⟩ : MethodName) jdk_42_method_152_code 1 (some .byte) :: ws) ({ frames := 0, cells := 0, slots := 0, locals := 0 } : Room)) (fun a U => a = #[(.ref a1)] ∧ Z.Warmed39 U.vm ∧ U.heap = h0) (fun _ _ _ _ _ => True) (fun _ U o U' => ∃ v L, o = .returned v ∧ Qrm11 Z a1 kk cs h0 n0 v U'.heap L ∧ FrameEnd U o U' L ({ frames := 0, cells := 0, slots := 0, locals := 0 } : Room).cells ({ frames := 0, cells := 0, slots := 0, locals := 0 } : Room).slots) := by
  refine MetFree.of_bodySF (plainFor_of_name pn_11) hisR ?_
  intro p e s m args below meth c s₁ Bd hml0 hP hK
  obtain ⟨rfl, hZ, hhp⟩ := hP
  have hx := Bd.exec
  have hby := Bd.bytes
  have hml : c.maxLocals = 1 := hml0
  have hown : s.vm.findClass "java/lang/String" = some m.cls := findClass_of_methodNamed Bd.named
  have hnm := (name_of_methodNamed Bd.named Bd.method).1
  have hlk : meth.locks = false := BodyLoose.notSynchronized Bd
  have hret := Bd.returns
  have X0 : Stand p l e ({ frames := 0, cells := 0, slots := 0, locals := 0 } : Room) s m #[(.ref a1)] below meth c s₁ [] 0 0 := Stand.of_body Bd
  have e0 : s₁.heap = h0 := by rw [← hhp, Bd.state]; rfl
  have N0 := Fr.nil n0
  show Done p e below s (Qrm11 Z a1 kk cs h0 n0) ({ frames := 0, cells := 0, slots := 0, locals := 0 } : Room).cells ({ frames := 0, cells := 0, slots := 0, locals := 0 } : Room).slots (s₁.setTop (entryFrame m #[(.ref a1)] 1))
  refine Done.step (fun t k => castTop (ef_11 m a1) k) ?_
  show Aq s₁ 0 #[vr a1] []
  obtain ⟨T101, X101, e101, st101⟩ := getS2 X0 hx hZ hown (host := "") (Or.inl (tw32 hw)) Via.refl e0 Scs (g := (mkF m 0 #[vr a1] [])) rfl (hb hby d11_0)
  refine Done.step st101 ?_
  show Aq T101 3 #[vr a1] [(.int cs)]
  refine Done.step (fun t k => XS.ifNo X101.here hx rfl (hb hby d11_3) rfl ((if0 _ _).trans (feq hcs).1) k) ?_
  show Aq T101 6 #[vr a1] []
  refine Done.step (fun t k => XS.aloadN X101.here hx rfl (hb hby d11_6) rfl rfl k) ?_
  show Aq T101 7 #[vr a1] [(.ref a1)]
  obtain ⟨T102, X102, e102, st102⟩ := getF X101 hx hZ hown (host := "") (Or.inl (tw43 hw)) Via.refl e101 F2 (g := (mkF m 7 #[vr a1] [(.ref a1)])) rfl rfl (hb hby d11_7)
  refine Done.step st102 ?_
  show Aq T102 10 #[vr a1] [(.int kk)]
  refine Done.step (fun t k => XS.goto X102.here hx rfl (pc0 := 10) (pc' := 14) rfl (hb hby d11_10) (by decide) (by decide) k) ?_
  show Aq T102 14 #[vr a1] [(.int kk)]
  exact Done.narr X102 hx hlk hret (by simp) (hb hby d11_14) (by decide) (by decide) ⟨by rw [hk], N0, e102⟩
theorem d14_0 : dq cd9 0 (.getstatic 38) 3 := by decide +kernel
theorem d14_3 : dq cd9 3 (.ifCond .eq 14) 3 := by decide +kernel
theorem d14_6 : dq cd9 6 (.aload_n 0) 1 := by decide +kernel
theorem d14_7 : dq cd9 7 (.getfield 15) 3 := by decide +kernel
theorem d14_10 : dq cd9 10 (.ifCond .ne 7) 3 := by decide +kernel
theorem d14_13 : dq cd9 13 (.iconst 1) 1 := by decide +kernel
theorem d14_14 : dq cd9 14 (.goto 4) 3 := by decide +kernel
theorem d14_18 : dq cd9 18 .ireturn 1 := by decide +kernel
theorem pn_14 : plainName "java/lang/String" = true := by first | (simp [plainName, overriddenIn]; done) | decide +kernel
theorem ef_14 (m : MethodId) (a1 : Addr) : entryFrame m #[(.ref a1)] 1 = mkF m 0 #[.val (.ref a1)] [] := by first | (simp [entryFrame, mkF, argsToLocals, Value.category]; done) | rfl
def Qrml0 (Z : State) (a1 : Addr) (cs : Int32) (h0 : Heap) (n0 : Nat) : Option Value → Heap → List Loc → Prop := fun v h L => v = some (.int 1) ∧ Fr n0 L ∧ h = h0
set_option maxRecDepth 65536 in
set_option maxHeartbeats 40000000 in
theorem rml0 (l : Launch) (Z : State) (a0 : Array Value) (hw : HH a0 Z) (ws : List Jvm.Cond) (a1 : Addr) (cs : Int32) (h0 : Heap) (n0 : Nat) (Z0 : n0 ≤ h0.size) (F2 : Fl0 Z h0 a1 (.int 0)) (Scs : Sta Z h0 "java/lang/String" "COMPACT_STRINGS" "Z" (.int cs)) (hcs : ¬ cs = (0 : Int32)) :
    MetFree l (⟨"java/lang/String", "isLatin1", "()Z"⟩ : MethodName) (head1 (Jvm.Cond.code (⟨"java/lang/String", "isLatin1", "()Z"⟩ : MethodName) jdk_42_method_154_code 1 (some .boolean) :: ws) ({ frames := 0, cells := 0, slots := 0, locals := 0 } : Room)) (fun a U => a = #[(.ref a1)] ∧ Z.Warmed39 U.vm ∧ U.heap = h0) (fun _ _ _ _ _ => True) (fun _ U o U' => ∃ v L, o = .returned v ∧ Qrml0 Z a1 cs h0 n0 v U'.heap L ∧ FrameEnd U o U' L ({ frames := 0, cells := 0, slots := 0, locals := 0 } : Room).cells ({ frames := 0, cells := 0, slots := 0, locals := 0 } : Room).slots) := by
  refine MetFree.of_bodySF (plainFor_of_name pn_14) hisR ?_
  intro p e s m args below meth c s₁ Bd hml0 hP hK
  obtain ⟨rfl, hZ, hhp⟩ := hP
  have hx := Bd.exec
  have hby := Bd.bytes
  have hml : c.maxLocals = 1 := hml0
  have hown : s.vm.findClass "java/lang/String" = some m.cls := findClass_of_methodNamed Bd.named
  have hnm := (name_of_methodNamed Bd.named Bd.method).1
  have hlk : meth.locks = false := BodyLoose.notSynchronized Bd
  have hret := Bd.returns
  have X0 : Stand p l e ({ frames := 0, cells := 0, slots := 0, locals := 0 } : Room) s m #[(.ref a1)] below meth c s₁ [] 0 0 := Stand.of_body Bd
  have e0 : s₁.heap = h0 := by rw [← hhp, Bd.state]; rfl
  have N0 := Fr.nil n0
  show Done p e below s (Qrml0 Z a1 cs h0 n0) ({ frames := 0, cells := 0, slots := 0, locals := 0 } : Room).cells ({ frames := 0, cells := 0, slots := 0, locals := 0 } : Room).slots (s₁.setTop (entryFrame m #[(.ref a1)] 1))
  refine Done.step (fun t k => castTop (ef_14 m a1) k) ?_
  show Aq s₁ 0 #[vr a1] []
  obtain ⟨T101, X101, e101, st101⟩ := getS2 X0 hx hZ hown (host := "") (Or.inl (tw32 hw)) Via.refl e0 Scs (g := (mkF m 0 #[vr a1] [])) rfl (hb hby d14_0)
  refine Done.step st101 ?_
  show Aq T101 3 #[vr a1] [(.int cs)]
  refine Done.step (fun t k => XS.ifNo X101.here hx rfl (hb hby d14_3) rfl ((if0 _ _).trans (feq hcs).1) k) ?_
  show Aq T101 6 #[vr a1] []
  refine Done.step (fun t k => XS.aloadN X101.here hx rfl (hb hby d14_6) rfl rfl k) ?_
  show Aq T101 7 #[vr a1] [(.ref a1)]
  obtain ⟨T102, X102, e102, st102⟩ := getF X101 hx hZ hown (host := "") (Or.inl (tw43 hw)) Via.refl e101 F2 (g := (mkF m 7 #[vr a1] [(.ref a1)])) rfl rfl (hb hby d14_7)
  refine Done.step st102 ?_
  show Aq T102 10 #[vr a1] [(.int 0)]
  refine Done.step (fun t k => XS.ifNo X102.here hx rfl (hb hby d14_10) rfl ((if0 _ _).trans (teq (by decide)).2) k) ?_
  show Aq T102 13 #[vr a1] []
  refine Done.step (fun t k => XS.iconst X102.here hx rfl (hb hby d14_13) k) ?_
  show Aq T102 14 #[vr a1] [(.int 1)]
  refine Done.step (fun t k => XS.goto X102.here hx rfl (pc0 := 14) (pc' := 18) rfl (hb hby d14_14) (by decide) (by decide) k) ?_
  show Aq T102 18 #[vr a1] [(.int 1)]
  exact Done.narr X102 hx hlk hret (by simp) (hb hby d14_18) (by decide) (by decide) ⟨rfl, N0, e102⟩
theorem own_lcn (x : Int32) : nar .char (LC x) = LC x := by
  exact own_ncc _
theorem d13_0 : dq cd10 0 (.aload_n 0) 1 := by decide +kernel
theorem d13_1 : dq cd10 1 (.invokevirtual 492) 3 := by decide +kernel
theorem d13_4 : dq cd10 4 (.ifCond .eq 12) 3 := by decide +kernel
theorem d13_7 : dq cd10 7 (.aload_n 0) 1 := by decide +kernel
theorem d13_8 : dq cd10 8 (.getfield 9) 3 := by decide +kernel
theorem d13_11 : dq cd10 11 (.iload_n 1) 1 := by decide +kernel
theorem d13_12 : dq cd10 12 (.invokestatic 495) 3 := by decide +kernel
theorem d13_15 : dq cd10 15 .ireturn 1 := by decide +kernel
theorem pn_13 : plainName "java/lang/String" = true := by first | (simp [plainName, overriddenIn]; done) | decide +kernel
theorem ef_13 (m : MethodId) (a1 : Addr) (p2 : Int32) : entryFrame m #[(.ref a1), (.int p2)] 2 = mkF m 0 #[.val (.ref a1), .val (.int p2)] [] := by first | (simp [entryFrame, mkF, argsToLocals, Value.category]; done) | rfl
def Qrmch0 (Z : State) (a1 : Addr) (p2 : Int32) (vb : Addr) (vs : List Value) (mI cs : Int32) (sv : Value) (ii : Nat) (x0 : Int32) (h0 : Heap) (n0 : Nat) : Option Value → Heap → List Loc → Prop := fun v h L => v = some (.int (LC x0)) ∧ Fr n0 L ∧ h = h0
set_option maxRecDepth 65536 in
set_option maxHeartbeats 40000000 in
theorem rmch0 (l : Launch) (Z : State) (a0 : Array Value) (hw : HH a0 Z) (ws : List Jvm.Cond) (a1 : Addr) (p2 : Int32) (vb : Addr) (vs : List Value) (mI cs : Int32) (sv : Value) (ii : Nat) (x0 : Int32) (h0 : Heap) (n0 : Nat) (Z0 : n0 ≤ h0.size) (E1 : Fl2 Z h0 a1) (F1 : Fl1 Z h0 a1 (.ref vb)) (F2 : Fl0 Z h0 a1 (.int 0)) (A1 : Ax Z h0 vb .byte vs) (hl : vs.length.toInt32 = mI) (Scs : Sta Z h0 "java/lang/String" "COMPACT_STRINGS" "Z" (.int cs)) (Ssx : Sta Z h0 "jdk/internal/util/Preconditions" "SIOOBE_FORMATTER" "Ljava/util/function/BiFunction;" sv) (hsv : sv.isRef = true) (hcs : ¬ cs = (0 : Int32)) (h1 : ¬ p2 < (0 : Int32)) (h2 : p2 < mI) (hp : p2.toInt = (ii : Int)) (g0 : vs[ii]? = some (.int x0)) :
    MetFree l (⟨"java/lang/String", "charAt", "(I)C"⟩ : MethodName) (head1 (Jvm.Cond.code (⟨"java/lang/String", "charAt", "(I)C"⟩ : MethodName) jdk_42_method_56_code 2 (some .char) :: ws) ({ frames := 5, cells := 0, slots := 0, locals := 80 } : Room)) (fun a U => a = #[(.ref a1), (.int p2)] ∧ Z.Warmed39 U.vm ∧ U.heap = h0) (fun _ _ _ _ _ => True) (fun _ U o U' => ∃ v L, o = .returned v ∧ Qrmch0 Z a1 p2 vb vs mI cs sv ii x0 h0 n0 v U'.heap L ∧ FrameEnd U o U' L ({ frames := 5, cells := 0, slots := 0, locals := 80 } : Room).cells ({ frames := 5, cells := 0, slots := 0, locals := 80 } : Room).slots) := by
  refine MetFree.of_bodySF (plainFor_of_name pn_13) hisR ?_
  intro p e s m args below meth c s₁ Bd hml0 hP hK
  obtain ⟨rfl, hZ, hhp⟩ := hP
  have hx := Bd.exec
  have hby := Bd.bytes
  have hml : c.maxLocals = 2 := hml0
  have hown : s.vm.findClass "java/lang/String" = some m.cls := findClass_of_methodNamed Bd.named
  have hnm := (name_of_methodNamed Bd.named Bd.method).1
  have hlk : meth.locks = false := BodyLoose.notSynchronized Bd
  have hret := Bd.returns
  have X0 : Stand p l e ({ frames := 5, cells := 0, slots := 0, locals := 80 } : Room) s m #[(.ref a1), (.int p2)] below meth c s₁ [] 0 0 := Stand.of_body Bd
  have e0 : s₁.heap = h0 := by rw [← hhp, Bd.state]; rfl
  have N0 := Fr.nil n0
  show Done p e below s (Qrmch0 Z a1 p2 vb vs mI cs sv ii x0 h0 n0) ({ frames := 5, cells := 0, slots := 0, locals := 80 } : Room).cells ({ frames := 5, cells := 0, slots := 0, locals := 80 } : Room).slots (s₁.setTop (entryFrame m #[(.ref a1), (.int p2)] 2))
  refine Done.step (fun t k => castTop (ef_13 m a1 p2) k) ?_
  show Aq s₁ 0 #[vr a1, vi p2] []
  refine Done.step (fun t k => XS.aloadN X0.here hx rfl (hb hby d13_0) rfl rfl k) ?_
  show Aq s₁ 1 #[vr a1, vi p2] [(.ref a1)]
  obtain ⟨cq101, kq101, q101a, q101b, q101c⟩ := isOf hZ e0 E1
  obtain ⟨v101, _, ⟨T101, L101, k101, n101⟩, -, X101, ⟨Lc101, hQ101, l101, y101, z101⟩, st101⟩ := X0.virtualBack hx (y := (⟨"java/lang/String", "isLatin1", "()Z"⟩ : MethodName)) (z := (⟨"java/lang/String", "isLatin1", "()Z"⟩ : MethodName)) hown (mvT hZ (tw66 hw)) (mvT hZ (tw67 hw)) (notFace_of_selects (args := #[]) (mvT hZ (tw69 hw))) (mvT hZ (tw69 hw)) (mvT hZ (tw68 hw)) (by decide) (backOf (W := 0) (rml0 l Z a0 hw [] a1 cs h0 n0 Z0 F2 Scs hcs) hZ (tw70 hw) (tw3 hw) (by decide) (by decide)) q101a q101c (g := (mkF m 1 #[vr a1, vi p2] [(.ref a1)])) rfl (by rw [hml]; rfl) (Steps.refl _) (argsL := []) (rest := []) (lenOf pd_5 rfl) rfl (by show 2 * 0 + _ ≤ _; exact Nat.le_of_eq rfl) (hb hby d13_1) (fun _ _ => ⟨rfl, e0, (by decide : 0 + 0 ≤ _), (by decide : 0 + 0 ≤ _)⟩)
  dsimp only [Pt.U, Pt.locs, Pt.cells, Pt.slots] at X101 l101 y101 z101 st101 hQ101
  subst l101 y101 z101
  refine Done.far st101 ?_
  obtain ⟨rfl, N101q, e101⟩ := hQ101
  have N101 := Fr.app N0 N101q
  show Aq T101 4 #[vr a1, vi p2] [(.int 1)]
  refine Done.step (fun t k => XS.ifNo X101.here hx rfl (hb hby d13_4) rfl ((if0 _ _).trans (feq (by decide)).1) k) ?_
  show Aq T101 7 #[vr a1, vi p2] []
  refine Done.step (fun t k => XS.aloadN X101.here hx rfl (hb hby d13_7) rfl rfl k) ?_
  show Aq T101 8 #[vr a1, vi p2] [(.ref a1)]
  obtain ⟨T102, X102, e102, st102⟩ := getF X101 hx hZ hown (host := "") (Or.inl (tw19 hw)) Via.refl e101 F1 (g := (mkF m 8 #[vr a1, vi p2] [(.ref a1)])) rfl rfl (hb hby d13_8)
  refine Done.step st102 ?_
  show Aq T102 11 #[vr a1, vi p2] [(.ref vb)]
  refine Done.step (fun t k => XS.iloadN X102.here hx rfl (hb hby d13_11) rfl k) ?_
  show Aq T102 12 #[vr a1, vi p2] [(.int p2), (.ref vb)]
  obtain ⟨v103, _, ⟨T103, L103, k103, n103⟩, -, X103, ⟨Lc103, hQ103, l103, y103, z103⟩, st103⟩ := Jvm.LawKit.callS X102 hx (y := (⟨"java/lang/StringLatin1", "charAt", "([BI)C"⟩ : MethodName)) hown (mvT hZ (tw71 hw)) (mvT hZ (tw72 hw)) (mvT hZ (tw73 hw)) (mvT hZ (tw74 hw)) (by decide) (backOf (W := 0) (rm15 l Z a0 hw [] vb p2 vs mI sv ii x0 h0 n0 Z0 A1 hl Ssx hsv h1 h2 hp g0) hZ (tw74 hw) (tw73 hw) (by decide) (by decide)) (g := (mkF m 12 #[vr a1, vi p2] [(.int p2), (.ref vb)])) rfl (by rw [hml]; rfl) (argsL := [(.ref vb), (.int p2)]) (rest := []) (lenOf pd_4 rfl) rfl (by show 2 * 0 + _ ≤ _; exact Nat.le_of_eq rfl) (hb hby d13_12) (fun _ _ => ⟨rfl, e102, (by decide : 0 + 0 ≤ _), (by decide : 0 + 0 ≤ _)⟩)
  dsimp only [Pt.U, Pt.locs, Pt.cells, Pt.slots] at X103 l103 y103 z103 st103 hQ103
  subst l103 y103 z103
  refine Done.step st103 ?_
  obtain ⟨rfl, N103q, e103⟩ := hQ103
  have N103 := Fr.app N101 N103q
  show Aq T103 15 #[vr a1, vi p2] [(.int (LC x0))]
  exact Done.narr X103 hx hlk hret (by simp) (hb hby d13_15) (by decide) (by decide) ⟨by rw [own_lcn], N103, e103⟩
theorem d14_17 : dq cd9 17 (.iconst 0) 1 := by decide +kernel
def Qrml1 (Z : State) (a1 : Addr) (cs : Int32) (h0 : Heap) (n0 : Nat) : Option Value → Heap → List Loc → Prop := fun v h L => v = some (.int 0) ∧ Fr n0 L ∧ h = h0
set_option maxRecDepth 65536 in
set_option maxHeartbeats 40000000 in
theorem rml1 (l : Launch) (Z : State) (a0 : Array Value) (hw : HH a0 Z) (ws : List Jvm.Cond) (a1 : Addr) (cs : Int32) (h0 : Heap) (n0 : Nat) (Z0 : n0 ≤ h0.size) (F2 : Fl0 Z h0 a1 (.int 1)) (Scs : Sta Z h0 "java/lang/String" "COMPACT_STRINGS" "Z" (.int cs)) (hcs : ¬ cs = (0 : Int32)) :
    MetFree l (⟨"java/lang/String", "isLatin1", "()Z"⟩ : MethodName) (head1 (Jvm.Cond.code (⟨"java/lang/String", "isLatin1", "()Z"⟩ : MethodName) jdk_42_method_154_code 1 (some .boolean) :: ws) ({ frames := 0, cells := 0, slots := 0, locals := 0 } : Room)) (fun a U => a = #[(.ref a1)] ∧ Z.Warmed39 U.vm ∧ U.heap = h0) (fun _ _ _ _ _ => True) (fun _ U o U' => ∃ v L, o = .returned v ∧ Qrml1 Z a1 cs h0 n0 v U'.heap L ∧ FrameEnd U o U' L ({ frames := 0, cells := 0, slots := 0, locals := 0 } : Room).cells ({ frames := 0, cells := 0, slots := 0, locals := 0 } : Room).slots) := by
  refine MetFree.of_bodySF (plainFor_of_name pn_14) hisR ?_
  intro p e s m args below meth c s₁ Bd hml0 hP hK
  obtain ⟨rfl, hZ, hhp⟩ := hP
  have hx := Bd.exec
  have hby := Bd.bytes
  have hml : c.maxLocals = 1 := hml0
  have hown : s.vm.findClass "java/lang/String" = some m.cls := findClass_of_methodNamed Bd.named
  have hnm := (name_of_methodNamed Bd.named Bd.method).1
  have hlk : meth.locks = false := BodyLoose.notSynchronized Bd
  have hret := Bd.returns
  have X0 : Stand p l e ({ frames := 0, cells := 0, slots := 0, locals := 0 } : Room) s m #[(.ref a1)] below meth c s₁ [] 0 0 := Stand.of_body Bd
  have e0 : s₁.heap = h0 := by rw [← hhp, Bd.state]; rfl
  have N0 := Fr.nil n0
  show Done p e below s (Qrml1 Z a1 cs h0 n0) ({ frames := 0, cells := 0, slots := 0, locals := 0 } : Room).cells ({ frames := 0, cells := 0, slots := 0, locals := 0 } : Room).slots (s₁.setTop (entryFrame m #[(.ref a1)] 1))
  refine Done.step (fun t k => castTop (ef_14 m a1) k) ?_
  show Aq s₁ 0 #[vr a1] []
  obtain ⟨T101, X101, e101, st101⟩ := getS2 X0 hx hZ hown (host := "") (Or.inl (tw32 hw)) Via.refl e0 Scs (g := (mkF m 0 #[vr a1] [])) rfl (hb hby d14_0)
  refine Done.step st101 ?_
  show Aq T101 3 #[vr a1] [(.int cs)]
  refine Done.step (fun t k => XS.ifNo X101.here hx rfl (hb hby d14_3) rfl ((if0 _ _).trans (feq hcs).1) k) ?_
  show Aq T101 6 #[vr a1] []
  refine Done.step (fun t k => XS.aloadN X101.here hx rfl (hb hby d14_6) rfl rfl k) ?_
  show Aq T101 7 #[vr a1] [(.ref a1)]
  obtain ⟨T102, X102, e102, st102⟩ := getF X101 hx hZ hown (host := "") (Or.inl (tw43 hw)) Via.refl e101 F2 (g := (mkF m 7 #[vr a1] [(.ref a1)])) rfl rfl (hb hby d14_7)
  refine Done.step st102 ?_
  show Aq T102 10 #[vr a1] [(.int 1)]
  refine Done.step (fun t k => XS.ifYes X102.here hx rfl (pc0 := 10) (pc' := 17) rfl (hb hby d14_10) rfl ((if0 _ _).trans (feq (by decide)).2) (by decide) (by decide) k) ?_
  show Aq T102 17 #[vr a1] []
  refine Done.step (fun t k => XS.iconst X102.here hx rfl (hb hby d14_17) k) ?_
  show Aq T102 18 #[vr a1] [(.int 0)]
  exact Done.narr X102 hx hlk hret (by simp) (hb hby d14_18) (by decide) (by decide) ⟨rfl, N0, e102⟩
theorem d13_16 : dq cd10 16 (.aload_n 0) 1 := by decide +kernel
theorem d13_17 : dq cd10 17 (.getfield 9) 3 := by decide +kernel
theorem d13_20 : dq cd10 20 (.iload_n 1) 1 := by decide +kernel
theorem d13_21 : dq cd10 21 (.invokestatic 498) 3 := by decide +kernel
theorem d13_24 : dq cd10 24 .ireturn 1 := by decide +kernel
def Qrmch1 (Z : State) (a1 : Addr) (p2 : Int32) (vb : Addr) (vs : List Value) (mI cs : Int32) (sv : Value) (ii : Nat) (x0 x1 : Int32) (h0 : Heap) (n0 : Nat) : Option Value → Heap → List Loc → Prop := fun v h L => v = some (.int (GC x0 x1)) ∧ Fr n0 L ∧ h = h0
set_option maxRecDepth 65536 in
set_option maxHeartbeats 40000000 in
theorem rmch1 (l : Launch) (Z : State) (a0 : Array Value) (hw : HH a0 Z) (ws : List Jvm.Cond) (a1 : Addr) (p2 : Int32) (vb : Addr) (vs : List Value) (mI cs : Int32) (sv : Value) (ii : Nat) (x0 x1 : Int32) (h0 : Heap) (n0 : Nat) (Z0 : n0 ≤ h0.size) (E1 : Fl2 Z h0 a1) (F1 : Fl1 Z h0 a1 (.ref vb)) (F2 : Fl0 Z h0 a1 (.int 1)) (A1 : Ax Z h0 vb .byte vs) (hl : vs.length.toInt32 = mI) (Scs : Sta Z h0 "java/lang/String" "COMPACT_STRINGS" "Z" (.int cs)) (Ssx : Sta Z h0 "jdk/internal/util/Preconditions" "SIOOBE_FORMATTER" "Ljava/util/function/BiFunction;" sv) (hsv : sv.isRef = true) (Sad : Sta Z h0 "java/lang/StringUTF16" "$assertionsDisabled" "Z" (.int 1)) (Shi : Sta Z h0 "java/lang/StringUTF16" "HI_BYTE_SHIFT" "I" (.int 0)) (Slo : Sta Z h0 "java/lang/StringUTF16" "LO_BYTE_SHIFT" "I" (.int 8)) (hcs : ¬ cs = (0 : Int32)) (h1 : ¬ p2 < (0 : Int32)) (h2 : p2 < (mI >>> ((1 : Int32) &&& 31))) (hp : p2.toInt = (ii : Int)) (hbd : ii ≤ 1000) (g0 : vs[2 * ii]? = some (.int x0)) (g1 : vs[2 * ii + 1]? = some (.int x1)) :
    MetFree l (⟨"java/lang/String", "charAt", "(I)C"⟩ : MethodName) (head1 (Jvm.Cond.code (⟨"java/lang/String", "charAt", "(I)C"⟩ : MethodName) jdk_42_method_56_code 2 (some .char) :: ws) ({ frames := 5, cells := 0, slots := 0, locals := 80 } : Room)) (fun a U => a = #[(.ref a1), (.int p2)] ∧ Z.Warmed39 U.vm ∧ U.heap = h0) (fun _ _ _ _ _ => True) (fun _ U o U' => ∃ v L, o = .returned v ∧ Qrmch1 Z a1 p2 vb vs mI cs sv ii x0 x1 h0 n0 v U'.heap L ∧ FrameEnd U o U' L ({ frames := 5, cells := 0, slots := 0, locals := 80 } : Room).cells ({ frames := 5, cells := 0, slots := 0, locals := 80 } : Room).slots) := by
  refine MetFree.of_bodySF (plainFor_of_name pn_13) hisR ?_
  intro p e s m args below meth c s₁ Bd hml0 hP hK
  obtain ⟨rfl, hZ, hhp⟩ := hP
  have hx := Bd.exec
  have hby := Bd.bytes
  have hml : c.maxLocals = 2 := hml0
  have hown : s.vm.findClass "java/lang/String" = some m.cls := findClass_of_methodNamed Bd.named
  have hnm := (name_of_methodNamed Bd.named Bd.method).1
  have hlk : meth.locks = false := BodyLoose.notSynchronized Bd
  have hret := Bd.returns
  have X0 : Stand p l e ({ frames := 5, cells := 0, slots := 0, locals := 80 } : Room) s m #[(.ref a1), (.int p2)] below meth c s₁ [] 0 0 := Stand.of_body Bd
  have e0 : s₁.heap = h0 := by rw [← hhp, Bd.state]; rfl
  have N0 := Fr.nil n0
  show Done p e below s (Qrmch1 Z a1 p2 vb vs mI cs sv ii x0 x1 h0 n0) ({ frames := 5, cells := 0, slots := 0, locals := 80 } : Room).cells ({ frames := 5, cells := 0, slots := 0, locals := 80 } : Room).slots (s₁.setTop (entryFrame m #[(.ref a1), (.int p2)] 2))
  refine Done.step (fun t k => castTop (ef_13 m a1 p2) k) ?_
  show Aq s₁ 0 #[vr a1, vi p2] []
  refine Done.step (fun t k => XS.aloadN X0.here hx rfl (hb hby d13_0) rfl rfl k) ?_
  show Aq s₁ 1 #[vr a1, vi p2] [(.ref a1)]
  obtain ⟨cq101, kq101, q101a, q101b, q101c⟩ := isOf hZ e0 E1
  obtain ⟨v101, _, ⟨T101, L101, k101, n101⟩, -, X101, ⟨Lc101, hQ101, l101, y101, z101⟩, st101⟩ := X0.virtualBack hx (y := (⟨"java/lang/String", "isLatin1", "()Z"⟩ : MethodName)) (z := (⟨"java/lang/String", "isLatin1", "()Z"⟩ : MethodName)) hown (mvT hZ (tw66 hw)) (mvT hZ (tw67 hw)) (notFace_of_selects (args := #[]) (mvT hZ (tw69 hw))) (mvT hZ (tw69 hw)) (mvT hZ (tw68 hw)) (by decide) (backOf (W := 0) (rml1 l Z a0 hw [] a1 cs h0 n0 Z0 F2 Scs hcs) hZ (tw70 hw) (tw3 hw) (by decide) (by decide)) q101a q101c (g := (mkF m 1 #[vr a1, vi p2] [(.ref a1)])) rfl (by rw [hml]; rfl) (Steps.refl _) (argsL := []) (rest := []) (lenOf pd_5 rfl) rfl (by show 2 * 0 + _ ≤ _; exact Nat.le_of_eq rfl) (hb hby d13_1) (fun _ _ => ⟨rfl, e0, (by decide : 0 + 0 ≤ _), (by decide : 0 + 0 ≤ _)⟩)
  dsimp only [Pt.U, Pt.locs, Pt.cells, Pt.slots] at X101 l101 y101 z101 st101 hQ101
  subst l101 y101 z101
  refine Done.far st101 ?_
  obtain ⟨rfl, N101q, e101⟩ := hQ101
  have N101 := Fr.app N0 N101q
  show Aq T101 4 #[vr a1, vi p2] [(.int 0)]
  refine Done.step (fun t k => XS.ifYes X101.here hx rfl (pc0 := 4) (pc' := 16) rfl (hb hby d13_4) rfl ((if0 _ _).trans (teq (by decide)).1) (by decide) (by decide) k) ?_
  show Aq T101 16 #[vr a1, vi p2] []
  refine Done.step (fun t k => XS.aloadN X101.here hx rfl (hb hby d13_16) rfl rfl k) ?_
  show Aq T101 17 #[vr a1, vi p2] [(.ref a1)]
  obtain ⟨T102, X102, e102, st102⟩ := getF X101 hx hZ hown (host := "") (Or.inl (tw19 hw)) Via.refl e101 F1 (g := (mkF m 17 #[vr a1, vi p2] [(.ref a1)])) rfl rfl (hb hby d13_17)
  refine Done.step st102 ?_
  show Aq T102 20 #[vr a1, vi p2] [(.ref vb)]
  refine Done.step (fun t k => XS.iloadN X102.here hx rfl (hb hby d13_20) rfl k) ?_
  show Aq T102 21 #[vr a1, vi p2] [(.int p2), (.ref vb)]
  obtain ⟨v103, _, ⟨T103, L103, k103, n103⟩, -, X103, ⟨Lc103, hQ103, l103, y103, z103⟩, st103⟩ := Jvm.LawKit.callS X102 hx (y := (⟨"java/lang/StringUTF16", "charAt", "([BI)C"⟩ : MethodName)) hown (mvT hZ (tw102 hw)) (mvT hZ (tw103 hw)) (mvT hZ (tw35 hw)) (mvT hZ (tw104 hw)) (by decide) (backOf (W := 0) (rm23 l Z a0 hw [] vb p2 vs mI sv ii x0 x1 h0 n0 Z0 A1 hl Ssx hsv Sad Shi Slo h1 h2 hp hbd g0 g1) hZ (tw104 hw) (tw35 hw) (by decide) (by decide)) (g := (mkF m 21 #[vr a1, vi p2] [(.int p2), (.ref vb)])) rfl (by rw [hml]; rfl) (argsL := [(.ref vb), (.int p2)]) (rest := []) (lenOf pd_4 rfl) rfl (by show 2 * 0 + _ ≤ _; exact Nat.le_of_eq rfl) (hb hby d13_21) (fun _ _ => ⟨rfl, e102, (by decide : 0 + 0 ≤ _), (by decide : 0 + 0 ≤ _)⟩)
  dsimp only [Pt.U, Pt.locs, Pt.cells, Pt.slots] at X103 l103 y103 z103 st103 hQ103
  subst l103 y103 z103
  refine Done.step st103 ?_
  obtain ⟨rfl, N103q, e103⟩ := hQ103
  have N103 := Fr.app N101 N103q
  show Aq T103 24 #[vr a1, vi p2] [(.int (GC x0 x1))]
  exact Done.narr X103 hx hlk hret (by simp) (hb hby d13_24) (by decide) (by decide) ⟨by rw [own_gcn], N103, e103⟩
theorem d10_0 : dq cd11 0 (.aload_n 0) 1 := by decide +kernel
theorem d10_1 : dq cd11 1 (.getfield 9) 3 := by decide +kernel
theorem d10_4 : dq cd11 4 .arraylength 1 := by decide +kernel
theorem d10_5 : dq cd11 5 (.aload_n 0) 1 := by decide +kernel
theorem d10_6 : dq cd11 6 (.invokevirtual 335) 3 := by decide +kernel
theorem d10_9 : dq cd11 9 .ishr 1 := by decide +kernel
theorem d10_10 : dq cd11 10 .ireturn 1 := by decide +kernel
theorem pn_10 : plainName "java/lang/String" = true := by first | (simp [plainName, overriddenIn]; done) | decide +kernel
theorem ef_10 (m : MethodId) (a1 : Addr) : entryFrame m #[(.ref a1)] 1 = mkF m 0 #[.val (.ref a1)] [] := by first | (simp [entryFrame, mkF, argsToLocals, Value.category]; done) | rfl
def Qrmlen (Z : State) (a1 : Addr) (vb : Addr) (kk : Int32) (vs : List Value) (mI cs nI : Int32) (h0 : Heap) (n0 : Nat) : Option Value → Heap → List Loc → Prop := fun v h L => v = some (.int nI) ∧ Fr n0 L ∧ h = h0
set_option maxRecDepth 65536 in
set_option maxHeartbeats 40000000 in
theorem rmlen (l : Launch) (Z : State) (a0 : Array Value) (hw : HH a0 Z) (ws : List Jvm.Cond) (a1 : Addr) (vb : Addr) (kk : Int32) (vs : List Value) (mI cs nI : Int32) (h0 : Heap) (n0 : Nat) (Z0 : n0 ≤ h0.size) (E1 : Fl2 Z h0 a1) (F1 : Fl1 Z h0 a1 (.ref vb)) (F2 : Fl0 Z h0 a1 (.int kk)) (A1 : Ax Z h0 vb .byte vs) (hl : vs.length.toInt32 = mI) (Scs : Sta Z h0 "java/lang/String" "COMPACT_STRINGS" "Z" (.int cs)) (hcs : ¬ cs = (0 : Int32)) (hk : nar .byte kk = kk) (hn : (mI >>> (kk &&& 31)) = nI) :
    MetFree l (⟨"java/lang/String", "length", "()I"⟩ : MethodName) (head1 (Jvm.Cond.code (⟨"java/lang/String", "length", "()I"⟩ : MethodName) jdk_42_method_54_code 1 (some .int) :: ws) ({ frames := 1, cells := 0, slots := 0, locals := 13 } : Room)) (fun a U => a = #[(.ref a1)] ∧ Z.Warmed39 U.vm ∧ U.heap = h0) (fun _ _ _ _ _ => True) (fun _ U o U' => ∃ v L, o = .returned v ∧ Qrmlen Z a1 vb kk vs mI cs nI h0 n0 v U'.heap L ∧ FrameEnd U o U' L ({ frames := 1, cells := 0, slots := 0, locals := 13 } : Room).cells ({ frames := 1, cells := 0, slots := 0, locals := 13 } : Room).slots) := by
  refine MetFree.of_bodySF (plainFor_of_name pn_10) hisR ?_
  intro p e s m args below meth c s₁ Bd hml0 hP hK
  obtain ⟨rfl, hZ, hhp⟩ := hP
  have hx := Bd.exec
  have hby := Bd.bytes
  have hml : c.maxLocals = 1 := hml0
  have hown : s.vm.findClass "java/lang/String" = some m.cls := findClass_of_methodNamed Bd.named
  have hnm := (name_of_methodNamed Bd.named Bd.method).1
  have hlk : meth.locks = false := BodyLoose.notSynchronized Bd
  have hret := Bd.returns
  have X0 : Stand p l e ({ frames := 1, cells := 0, slots := 0, locals := 13 } : Room) s m #[(.ref a1)] below meth c s₁ [] 0 0 := Stand.of_body Bd
  have e0 : s₁.heap = h0 := by rw [← hhp, Bd.state]; rfl
  have N0 := Fr.nil n0
  show Done p e below s (Qrmlen Z a1 vb kk vs mI cs nI h0 n0) ({ frames := 1, cells := 0, slots := 0, locals := 13 } : Room).cells ({ frames := 1, cells := 0, slots := 0, locals := 13 } : Room).slots (s₁.setTop (entryFrame m #[(.ref a1)] 1))
  refine Done.step (fun t k => castTop (ef_10 m a1) k) ?_
  show Aq s₁ 0 #[vr a1] []
  refine Done.step (fun t k => XS.aloadN X0.here hx rfl (hb hby d10_0) rfl rfl k) ?_
  show Aq s₁ 1 #[vr a1] [(.ref a1)]
  obtain ⟨T101, X101, e101, st101⟩ := getF X0 hx hZ hown (host := "") (Or.inl (tw19 hw)) Via.refl e0 F1 (g := (mkF m 1 #[vr a1] [(.ref a1)])) rfl rfl (hb hby d10_1)
  refine Done.step st101 ?_
  show Aq T101 4 #[vr a1] [(.ref vb)]
  refine Done.step (lenA X101 hx hZ e101 A1 (n := mI) hl (g := (mkF m 4 #[vr a1] [(.ref vb)])) rfl rfl (hb hby d10_4)) ?_
  show Aq T101 5 #[vr a1] [(.int mI)]
  refine Done.step (fun t k => XS.aloadN X101.here hx rfl (hb hby d10_5) rfl rfl k) ?_
  show Aq T101 6 #[vr a1] [(.ref a1), (.int mI)]
  obtain ⟨cq102, kq102, q102a, q102b, q102c⟩ := isOf hZ e101 E1
  obtain ⟨v102, _, ⟨T102, L102, k102, n102⟩, -, X102, ⟨Lc102, hQ102, l102, y102, z102⟩, st102⟩ := X101.virtualBack hx (y := (⟨"java/lang/String", "coder", "()B"⟩ : MethodName)) (z := (⟨"java/lang/String", "coder", "()B"⟩ : MethodName)) hown (mvT hZ (tw53 hw)) (mvT hZ (tw54 hw)) (notFace_of_selects (args := #[]) (mvT hZ (tw56 hw))) (mvT hZ (tw56 hw)) (mvT hZ (tw55 hw)) (by decide) (backOf (W := 1) (rm11 l Z a0 hw [] a1 kk cs h0 n0 Z0 F2 Scs hcs hk) hZ (tw57 hw) (tw3 hw) (by decide) (by decide)) q102a q102c (g := (mkF m 6 #[vr a1] [(.ref a1), (.int mI)])) rfl (by rw [hml]; rfl) (Steps.refl _) (argsL := []) (rest := [(.int mI)]) (lenOf pd_6 rfl) rfl (by show 2 * 0 + _ ≤ _; exact Nat.le_of_eq rfl) (hb hby d10_6) (fun _ _ => ⟨rfl, e101, (by decide : 0 + 0 ≤ _), (by decide : 0 + 0 ≤ _)⟩)
  dsimp only [Pt.U, Pt.locs, Pt.cells, Pt.slots] at X102 l102 y102 z102 st102 hQ102
  subst l102 y102 z102
  refine Done.far st102 ?_
  obtain ⟨rfl, N102q, e102⟩ := hQ102
  have N102 := Fr.app N0 N102q
  show Aq T102 9 #[vr a1] [(.int kk), (.int mI)]
  refine Done.step (fun t k => XS.ishr X102.here hx rfl (hb hby d10_9) rfl k) ?_
  show Aq T102 10 #[vr a1] [(.int (mI >>> (kk &&& 31)))]
  exact Done.int X102 hx hlk hret (hb hby d10_10) (by decide) (by decide) ⟨by rw [hn], N102, e102⟩
theorem d2_0 : dq cd12 0 (.aload_n 0) 1 := by decide +kernel
theorem d2_1 : dq cd12 1 (.getfield 9) 3 := by decide +kernel
theorem d2_4 : dq cd12 4 .arraylength 1 := by decide +kernel
theorem d2_5 : dq cd12 5 (.ifCond .ne 7) 3 := by decide +kernel
theorem d2_8 : dq cd12 8 (.iconst 1) 1 := by decide +kernel
theorem d2_9 : dq cd12 9 (.goto 4) 3 := by decide +kernel
theorem d2_12 : dq cd12 12 (.iconst 0) 1 := by decide +kernel
theorem d2_13 : dq cd12 13 .ireturn 1 := by decide +kernel
theorem pn_2 : plainName "java/lang/String" = true := by first | (simp [plainName, overriddenIn]; done) | decide +kernel
theorem ef_2 (m : MethodId) (a1 : Addr) : entryFrame m #[(.ref a1)] 1 = mkF m 0 #[.val (.ref a1)] [] := by first | (simp [entryFrame, mkF, argsToLocals, Value.category]; done) | rfl
def Qrmemp (Z : State) (a1 : Addr) (vb : Addr) (vs : List Value) (mI : Int32) (h0 : Heap) (n0 : Nat) : Option Value → Heap → List Loc → Prop := fun v h L => v = some (.int (if mI = (0 : Int32) then (1 : Int32) else (0 : Int32))) ∧ Fr n0 L ∧ h = h0
set_option maxRecDepth 65536 in
set_option maxHeartbeats 40000000 in
theorem rmemp (l : Launch) (Z : State) (a0 : Array Value) (hw : HH a0 Z) (ws : List Jvm.Cond) (a1 : Addr) (vb : Addr) (vs : List Value) (mI : Int32) (h0 : Heap) (n0 : Nat) (Z0 : n0 ≤ h0.size) (F1 : Fl1 Z h0 a1 (.ref vb)) (A1 : Ax Z h0 vb .byte vs) (hl : vs.length.toInt32 = mI) :
    MetFree l (⟨"java/lang/String", "isEmpty", "()Z"⟩ : MethodName) (head1 (Jvm.Cond.code (⟨"java/lang/String", "isEmpty", "()Z"⟩ : MethodName) jdk_42_method_55_code 1 (some .boolean) :: ws) ({ frames := 0, cells := 0, slots := 0, locals := 0 } : Room)) (fun a U => a = #[(.ref a1)] ∧ Z.Warmed39 U.vm ∧ U.heap = h0) (fun _ _ _ _ _ => True) (fun _ U o U' => ∃ v L, o = .returned v ∧ Qrmemp Z a1 vb vs mI h0 n0 v U'.heap L ∧ FrameEnd U o U' L ({ frames := 0, cells := 0, slots := 0, locals := 0 } : Room).cells ({ frames := 0, cells := 0, slots := 0, locals := 0 } : Room).slots) := by
  refine MetFree.of_bodySF (plainFor_of_name pn_2) hisR ?_
  intro p e s m args below meth c s₁ Bd hml0 hP hK
  obtain ⟨rfl, hZ, hhp⟩ := hP
  have hx := Bd.exec
  have hby := Bd.bytes
  have hml : c.maxLocals = 1 := hml0
  have hown : s.vm.findClass "java/lang/String" = some m.cls := findClass_of_methodNamed Bd.named
  have hnm := (name_of_methodNamed Bd.named Bd.method).1
  have hlk : meth.locks = false := BodyLoose.notSynchronized Bd
  have hret := Bd.returns
  have X0 : Stand p l e ({ frames := 0, cells := 0, slots := 0, locals := 0 } : Room) s m #[(.ref a1)] below meth c s₁ [] 0 0 := Stand.of_body Bd
  have e0 : s₁.heap = h0 := by rw [← hhp, Bd.state]; rfl
  have N0 := Fr.nil n0
  show Done p e below s (Qrmemp Z a1 vb vs mI h0 n0) ({ frames := 0, cells := 0, slots := 0, locals := 0 } : Room).cells ({ frames := 0, cells := 0, slots := 0, locals := 0 } : Room).slots (s₁.setTop (entryFrame m #[(.ref a1)] 1))
  refine Done.step (fun t k => castTop (ef_2 m a1) k) ?_
  show Aq s₁ 0 #[vr a1] []
  refine Done.step (fun t k => XS.aloadN X0.here hx rfl (hb hby d2_0) rfl rfl k) ?_
  show Aq s₁ 1 #[vr a1] [(.ref a1)]
  obtain ⟨T101, X101, e101, st101⟩ := getF X0 hx hZ hown (host := "") (Or.inl (tw19 hw)) Via.refl e0 F1 (g := (mkF m 1 #[vr a1] [(.ref a1)])) rfl rfl (hb hby d2_1)
  refine Done.step st101 ?_
  show Aq T101 4 #[vr a1] [(.ref vb)]
  refine Done.step (lenA X101 hx hZ e101 A1 (n := mI) hl (g := (mkF m 4 #[vr a1] [(.ref vb)])) rfl rfl (hb hby d2_4)) ?_
  show Aq T101 5 #[vr a1] [(.int mI)]
  by_cases c1 : mI = (0 : Int32)
  · refine Done.step (fun t k => XS.ifNo X101.here hx rfl (hb hby d2_5) rfl ((if0 _ _).trans (teq c1).2) k) ?_
    show Aq T101 8 #[vr a1] []
    refine Done.step (fun t k => XS.iconst X101.here hx rfl (hb hby d2_8) k) ?_
    show Aq T101 9 #[vr a1] [(.int 1)]
    refine Done.step (fun t k => XS.goto X101.here hx rfl (pc0 := 9) (pc' := 13) rfl (hb hby d2_9) (by decide) (by decide) k) ?_
    show Aq T101 13 #[vr a1] [(.int 1)]
    exact Done.narr X101 hx hlk hret (by simp) (hb hby d2_13) (by decide) (by decide) ⟨by rw [if_pos c1] <;> rfl, N0, e101⟩
  · refine Done.step (fun t k => XS.ifYes X101.here hx rfl (pc0 := 5) (pc' := 12) rfl (hb hby d2_5) rfl ((if0 _ _).trans (feq c1).2) (by decide) (by decide) k) ?_
    show Aq T101 12 #[vr a1] []
    refine Done.step (fun t k => XS.iconst X101.here hx rfl (hb hby d2_12) k) ?_
    show Aq T101 13 #[vr a1] [(.int 0)]
    exact Done.narr X101 hx hlk hret (by simp) (hb hby d2_13) (by decide) (by decide) ⟨by rw [if_neg c1] <;> rfl, N0, e101⟩
theorem own_b (z : Int32) : ((nar .byte z).toInt - z.toInt) % 256 = 0 ∧ -128 ≤ (nar .byte z).toInt ∧ (nar .byte z).toInt < 128 := c_i2b z
theorem own_c (z : Int32) : ((nar .char z).toInt - z.toInt) % 65536 = 0 ∧ 0 ≤ (nar .char z).toInt ∧ (nar .char z).toInt < 65536 := c_i2c z
theorem own_lc {x : Int32} (h0 : 0 ≤ x.toInt) (h1 : x.toInt ≤ 255) : LC (nar .byte (x.toInt8.toInt32)) = x := by
  apply Int32.toInt_inj.mp
  have a := own_b (x.toInt8.toInt32)
  have b := c_i2b x
  have m := c_mask (nar .byte (x.toInt8.toInt32)) (255 : Int32) 8 (by decide) (by decide)
  have d := c_i2c ((nar .byte (x.toInt8.toInt32)) &&& (255 : Int32))
  have f := own_c (((nar .byte (x.toInt8.toInt32)) &&& (255 : Int32)).toUInt32.toUInt16.toUInt32.toInt32)
  unfold LC
  omega
theorem own_gc {x : Int32} (h0 : 0 ≤ x.toInt) (h1 : x.toInt < 65536) : GC (b0 x) (b1 x) = x := by
  have a0 := own_b ((x >>> ((0 : Int32) &&& 31)).toInt8.toInt32)
  have a1 := c_i2b (x >>> ((0 : Int32) &&& 31))
  have a2 := c_ishr x (0 : Int32) 0 (by decide)
  have e0 := own_b ((x >>> ((8 : Int32) &&& 31)).toInt8.toInt32)
  have e1 := c_i2b (x >>> ((8 : Int32) &&& 31))
  have e2 := c_ishr x (8 : Int32) 8 (by decide)
  have A : ((b0 x).toInt - x.toInt) % 256 = 0 := by unfold b0; omega
  have B : ((b1 x).toInt - x.toInt / 256) % 256 = 0 := by unfold b1; omega
  have m0 := c_mask (b0 x) (255 : Int32) 8 (by decide) (by decide)
  have m1 := c_mask (b1 x) (255 : Int32) 8 (by decide) (by decide)
  have s0 := c_ishl (b0 x &&& (255 : Int32)) (0 : Int32) 0 (by decide)
  have s1 := c_ishl (b1 x &&& (255 : Int32)) (8 : Int32) 8 (by decide)
  have r0 := rng32 ((b0 x &&& (255 : Int32)) <<< ((0 : Int32) &&& 31))
  have r1 := rng32 ((b1 x &&& (255 : Int32)) <<< ((8 : Int32) &&& 31))
  have q0 : ((b0 x &&& (255 : Int32)) <<< ((0 : Int32) &&& 31)).toInt = x.toInt % 256 := by omega
  have q1 : ((b1 x &&& (255 : Int32)) <<< ((8 : Int32) &&& 31)).toInt = x.toInt / 256 * 256 := by omega
  have o := c_or ((b1 x &&& (255 : Int32)) <<< ((8 : Int32) &&& 31)) ((b0 x &&& (255 : Int32)) <<< ((0 : Int32) &&& 31)) 8 (by decide) 256 (by decide) (by omega) (by omega) (by omega)
  rw [Int32.or_comm] at o
  apply Int32.toInt_inj.mp
  unfold GC
  have ro := rng32 (((b0 x &&& (255 : Int32)) <<< ((0 : Int32) &&& 31)) ||| ((b1 x &&& (255 : Int32)) <<< ((8 : Int32) &&& 31)))
  have d := c_i2c (((b0 x &&& (255 : Int32)) <<< ((0 : Int32) &&& 31)) ||| ((b1 x &&& (255 : Int32)) <<< ((8 : Int32) &&& 31)))
  have f := own_c ((((b0 x &&& (255 : Int32)) <<< ((0 : Int32) &&& 31)) ||| ((b1 x &&& (255 : Int32)) <<< ((8 : Int32) &&& 31))).toUInt32.toUInt16.toUInt32.toInt32)
  omega
theorem own_set2 : ∀ (A : List Value) (x y z z' : Value) (r : List Value), ((A ++ z :: z' :: r).set A.length x).set (A.length + 1) y = A ++ x :: y :: r
  | [], _, _, _, _, _ => rfl
  | a :: t, x, y, z, z', r => by simp only [List.cons_append, List.length_cons, List.set_cons_succ]; rw [own_set2 t]
theorem own_set1 : ∀ (A : List Value) (x z : Value) (r : List Value), (A ++ z :: r).set A.length x = A ++ x :: r
  | [], _, _, _ => rfl
  | a :: t, x, z, r => by simp only [List.cons_append, List.length_cons, List.set_cons_succ]; rw [own_set1 t]
theorem own_tk {xs : List Int32} {ii : Nat} {x : Int32} (h : xs[ii]? = some x) : xs.take (ii + 1) = xs.take ii ++ [x] := by rw [List.take_add_one, h]; rfl
theorem own_put {xs : List Int32} {ii : Nat} {x : Int32} {z : Value} (h : xs[ii]? = some x) : (((UV (xs.take ii) ++ List.replicate (2 * (xs.length - ii)) z).set (2 * ii) (.int (b0 x))).set (2 * ii + 1) (.int (b1 x))) = UV (xs.take (ii + 1)) ++ List.replicate (2 * (xs.length - (ii + 1))) z := by
  obtain ⟨hl, -⟩ := List.getElem?_eq_some_iff.mp h
  have l1 : (UV (xs.take ii)).length = 2 * ii := by rw [UV.len, List.length_take]; omega
  rw [show 2 * (xs.length - ii) = 2 * (xs.length - (ii + 1)) + 1 + 1 by omega, List.replicate_succ, List.replicate_succ, own_tk h, UV.app, ← l1, own_set2, List.append_assoc]
  rfl
theorem own_put1 {xs : List Int32} {ii : Nat} {x : Int32} {z : Value} (h : xs[ii]? = some x) : (((xs.take ii).map lat ++ List.replicate (xs.length - ii) z).set ii (.int (nar .byte (x.toInt8.toInt32)))) = (xs.take (ii + 1)).map lat ++ List.replicate (xs.length - (ii + 1)) z := by
  obtain ⟨hl, -⟩ := List.getElem?_eq_some_iff.mp h
  have l1 : ((xs.take ii).map lat).length = ii := by rw [List.length_map, List.length_take]; omega
  have q := own_set1 ((xs.take ii).map lat) (lat x) z (List.replicate (xs.length - (ii + 1)) z)
  rw [l1] at q
  rw [show xs.length - ii = (xs.length - (ii + 1)) + 1 by omega, List.replicate_succ, own_tk h, List.map_append]
  refine Eq.trans q ?_
  rw [List.append_assoc]; rfl
theorem d20_0 : dq cd13 0 (.iload_n 0) 1 := by decide +kernel
theorem d20_1 : dq cd13 1 (.ifCond .ge 11) 3 := by decide +kernel
theorem d20_12 : dq cd13 12 (.iload_n 0) 1 := by decide +kernel
theorem d20_13 : dq cd13 13 (.ldc 20) 2 := by decide +kernel
theorem d20_15 : dq cd13 15 (.if_icmp .lt 40) 3 := by decide +kernel
theorem d20_55 : dq cd13 55 (.iload_n 0) 1 := by decide +kernel
theorem d20_56 : dq cd13 56 (.iconst 1) 1 := by decide +kernel
theorem d20_57 : dq cd13 57 .ishl 1 := by decide +kernel
theorem d20_58 : dq cd13 58 .ireturn 1 := by decide +kernel
theorem pn_20 : plainName "java/lang/StringUTF16" = true := by first | (simp [plainName, overriddenIn]; done) | decide +kernel
theorem ef_20 (m : MethodId) (p1 : Int32) : entryFrame m #[(.int p1)] 1 = mkF m 0 #[.val (.int p1)] [] := by first | (simp [entryFrame, mkF, argsToLocals, Value.category]; done) | rfl
def Qrm20 (Z : State) (p1 : Int32) (h0 : Heap) (n0 : Nat) : Option Value → Heap → List Loc → Prop := fun v h L => v = some (.int (p1 <<< ((1 : Int32) &&& 31))) ∧ Fr n0 L ∧ h = h0
set_option maxRecDepth 65536 in
set_option maxHeartbeats 40000000 in
theorem rm20 (l : Launch) (Z : State) (a0 : Array Value) (hw : HH a0 Z) (ws : List Jvm.Cond) (p1 : Int32) (h0 : Heap) (n0 : Nat) (Z0 : n0 ≤ h0.size) (h1 : ¬ p1 < (0 : Int32)) (h2 : p1 < (1073741823 : Int32)) :
    MetFree l (⟨"java/lang/StringUTF16", "newBytesLength", "(I)I"⟩ : MethodName) (head1 (Jvm.Cond.code (⟨"java/lang/StringUTF16", "newBytesLength", "(I)I"⟩ : MethodName) jdk_52_method_3_code 1 (some .int) :: ws) ({ frames := 0, cells := 0, slots := 0, locals := 0 } : Room)) (fun a U => a = #[(.int p1)] ∧ Z.Warmed39 U.vm ∧ U.heap = h0) (fun _ _ _ _ _ => True) (fun _ U o U' => ∃ v L, o = .returned v ∧ Qrm20 Z p1 h0 n0 v U'.heap L ∧ FrameEnd U o U' L ({ frames := 0, cells := 0, slots := 0, locals := 0 } : Room).cells ({ frames := 0, cells := 0, slots := 0, locals := 0 } : Room).slots) := by
  refine MetFree.of_bodySF (plainFor_of_name pn_20) hisR ?_
  intro p e s m args below meth c s₁ Bd hml0 hP hK
  obtain ⟨rfl, hZ, hhp⟩ := hP
  have hx := Bd.exec
  have hby := Bd.bytes
  have hml : c.maxLocals = 1 := hml0
  have hown : s.vm.findClass "java/lang/StringUTF16" = some m.cls := findClass_of_methodNamed Bd.named
  have hnm := (name_of_methodNamed Bd.named Bd.method).1
  have hlk : meth.locks = false := BodyLoose.notSynchronized Bd
  have hret := Bd.returns
  have X0 : Stand p l e ({ frames := 0, cells := 0, slots := 0, locals := 0 } : Room) s m #[(.int p1)] below meth c s₁ [] 0 0 := Stand.of_body Bd
  have e0 : s₁.heap = h0 := by rw [← hhp, Bd.state]; rfl
  have N0 := Fr.nil n0
  show Done p e below s (Qrm20 Z p1 h0 n0) ({ frames := 0, cells := 0, slots := 0, locals := 0 } : Room).cells ({ frames := 0, cells := 0, slots := 0, locals := 0 } : Room).slots (s₁.setTop (entryFrame m #[(.int p1)] 1))
  refine Done.step (fun t k => castTop (ef_20 m p1) k) ?_
  show Aq s₁ 0 #[vi p1] []
  refine Done.step (fun t k => XS.iloadN X0.here hx rfl (hb hby d20_0) rfl k) ?_
  show Aq s₁ 1 #[vi p1] [(.int p1)]
  refine Done.step (fun t k => XS.ifYes X0.here hx rfl (pc0 := 1) (pc' := 12) rfl (hb hby d20_1) rfl ((if0 _ _).trans (flt h1).2.1) (by decide) (by decide) k) ?_
  show Aq s₁ 12 #[vi p1] []
  refine Done.step (fun t k => XS.iloadN X0.here hx rfl (hb hby d20_12) rfl k) ?_
  show Aq s₁ 13 #[vi p1] [(.int p1)]
  refine Done.step (X0.ldcInt hx hown (mvT hZ (tw92 hw)) (g := (mkF m 13 #[vi p1] [(.int p1)])) rfl (hb hby d20_13)) ?_
  show Aq s₁ 15 #[vi p1] [(.int 1073741823), (.int p1)]
  refine Done.step (fun t k => XS.icmpYes X0.here hx rfl (pc0 := 15) (pc' := 55) rfl (hb hby d20_15) rfl (tlt h2).1 (by decide) (by decide) k) ?_
  show Aq s₁ 55 #[vi p1] []
  refine Done.step (fun t k => XS.iloadN X0.here hx rfl (hb hby d20_55) rfl k) ?_
  show Aq s₁ 56 #[vi p1] [(.int p1)]
  refine Done.step (fun t k => XS.iconst X0.here hx rfl (hb hby d20_56) k) ?_
  show Aq s₁ 57 #[vi p1] [(.int 1), (.int p1)]
  refine Done.step (fun t k => XS.ishl X0.here hx rfl (hb hby d20_57) rfl k) ?_
  show Aq s₁ 58 #[vi p1] [(.int (p1 <<< ((1 : Int32) &&& 31)))]
  exact Done.int X0 hx hlk hret (hb hby d20_58) (by decide) (by decide) ⟨rfl, N0, e0⟩
theorem d19_0 : dq cd14 0 (.iload_n 0) 1 := by decide +kernel
theorem d19_1 : dq cd14 1 (.invokestatic 11) 3 := by decide +kernel
theorem d19_4 : dq cd14 4 (.newarray .byte) 2 := by decide +kernel
theorem d19_6 : dq cd14 6 .areturn 1 := by decide +kernel
theorem pn_19 : plainName "java/lang/StringUTF16" = true := by first | (simp [plainName, overriddenIn]; done) | decide +kernel
theorem ef_19 (m : MethodId) (p1 : Int32) : entryFrame m #[(.int p1)] 1 = mkF m 0 #[.val (.int p1)] [] := by first | (simp [entryFrame, mkF, argsToLocals, Value.category]; done) | rfl
def Qrm19 (Z : State) (p1 : Int32) (nn : Nat) (h0 : Heap) (n0 : Nat) : Option Value → Heap → List Loc → Prop := fun v h L => ∃ b : Addr, v = some (.ref b) ∧ Fr n0 L ∧ Keep h0 h [] ∧ Fl3 Z h b ∧ h0.size ≤ b ∧ Ax Z h b .byte (List.replicate (2 * nn) (Value.int (0 : Int32)))
set_option maxRecDepth 65536 in
set_option maxHeartbeats 40000000 in
theorem rm19 (l : Launch) (Z : State) (a0 : Array Value) (hw : HH a0 Z) (ws : List Jvm.Cond) (p1 : Int32) (nn : Nat) (h0 : Heap) (n0 : Nat) (Z0 : n0 ≤ h0.size) (hp : p1.toInt = (nn : Int)) (hbd : nn ≤ 65) :
    MetFree l (⟨"java/lang/StringUTF16", "newBytesFor", "(I)[B"⟩ : MethodName) (head1 (Jvm.Cond.code (⟨"java/lang/StringUTF16", "newBytesFor", "(I)[B"⟩ : MethodName) jdk_52_method_2_code 1 (some (.array .byte)) :: ws) ({ frames := 1, cells := 1, slots := 130, locals := 12 } : Room)) (fun a U => a = #[(.int p1)] ∧ Z.Warmed39 U.vm ∧ U.heap = h0) (fun _ _ _ _ _ => True) (fun _ U o U' => ∃ v L, o = .returned v ∧ Qrm19 Z p1 nn h0 n0 v U'.heap L ∧ FrameEnd U o U' L ({ frames := 1, cells := 1, slots := 130, locals := 12 } : Room).cells ({ frames := 1, cells := 1, slots := 130, locals := 12 } : Room).slots) := by
  refine MetFree.of_bodySF (plainFor_of_name pn_19) hisR ?_
  intro p e s m args below meth c s₁ Bd hml0 hP hK
  obtain ⟨rfl, hZ, hhp⟩ := hP
  have hx := Bd.exec
  have hby := Bd.bytes
  have hml : c.maxLocals = 1 := hml0
  have hown : s.vm.findClass "java/lang/StringUTF16" = some m.cls := findClass_of_methodNamed Bd.named
  have hnm := (name_of_methodNamed Bd.named Bd.method).1
  have hlk : meth.locks = false := BodyLoose.notSynchronized Bd
  have hret := Bd.returns
  have X0 : Stand p l e ({ frames := 1, cells := 1, slots := 130, locals := 12 } : Room) s m #[(.int p1)] below meth c s₁ [] 0 0 := Stand.of_body Bd
  have e0 : s₁.heap = h0 := by rw [← hhp, Bd.state]; rfl
  have N0 := Fr.nil n0
  show Done p e below s (Qrm19 Z p1 nn h0 n0) ({ frames := 1, cells := 1, slots := 130, locals := 12 } : Room).cells ({ frames := 1, cells := 1, slots := 130, locals := 12 } : Room).slots (s₁.setTop (entryFrame m #[(.int p1)] 1))
  refine Done.step (fun t k => castTop (ef_19 m p1) k) ?_
  have h1 : ¬ p1 < (0 : Int32) := own_nneg hp
  have h2 : p1 < (1073741823 : Int32) := by rw [Int32.lt_iff_toInt_lt]; show _ < (1073741823 : Int); omega
  show Aq s₁ 0 #[vi p1] []
  refine Done.step (fun t k => XS.iloadN X0.here hx rfl (hb hby d19_0) rfl k) ?_
  show Aq s₁ 1 #[vi p1] [(.int p1)]
  obtain ⟨v101, _, ⟨T101, L101, k101, n101⟩, -, X101, ⟨Lc101, hQ101, l101, y101, z101⟩, st101⟩ := Jvm.LawKit.callS X0 hx (y := (⟨"java/lang/StringUTF16", "newBytesLength", "(I)I"⟩ : MethodName)) hown (mvT hZ (tw89 hw)) (mvT hZ (tw90 hw)) (mvT hZ (tw35 hw)) (mvT hZ (tw91 hw)) (by decide) (backOf (W := 0) (rm20 l Z a0 hw [] p1  h0 n0 Z0 h1 h2) hZ (tw91 hw) (tw35 hw) (by decide) (by decide)) (g := (mkF m 1 #[vi p1] [(.int p1)])) rfl (by rw [hml]; rfl) (argsL := [(.int p1)]) (rest := []) (lenOf pd_7 rfl) rfl (by show 2 * 0 + _ ≤ _; exact Nat.le_of_eq rfl) (hb hby d19_1) (fun _ _ => ⟨rfl, e0, (by decide : 0 + 0 ≤ _), (by decide : 0 + 0 ≤ _)⟩)
  dsimp only [Pt.U, Pt.locs, Pt.cells, Pt.slots] at X101 l101 y101 z101 st101 hQ101
  subst l101 y101 z101
  refine Done.step st101 ?_
  obtain ⟨rfl, N101q, e101⟩ := hQ101
  have N101 := Fr.app N0 N101q
  show Aq T101 4 #[vi p1] [(.int (p1 <<< ((1 : Int32) &&& 31)))]
  have hz : (p1 <<< ((1 : Int32) &&& 31)).toInt = ((2 * nn : Nat) : Int) := own_shl hp (by omega)
  obtain ⟨T102, h102, k102, X102, e102, E102, A102, B102, st102⟩ := newPE X101 hx hZ (hw _ (List.mem_of_getElem? (i := 5) rfl)) e101 (g := (mkF m 4 #[vi p1] [(.int (p1 <<< ((1 : Int32) &&& 31)))])) rfl (hb hby d19_4) rfl (own_nneg hz) (cap := 130) (by rw [own_cl hz]; omega) (by decide) (by decide) (by decide) (ad := "[B") (by decide)
  obtain ⟨b102, gq102⟩ : ∃ z, z = h0.size := ⟨_, rfl⟩
  rw [← gq102] at A102 B102 st102
  have g_b102 := Nat.le_trans Z0 (Nat.le_of_eq gq102.symm)
  have sz_b102 := Nat.le_trans (Keep.refl h0 []).1 (Nat.le_of_eq gq102.symm)
  have Z102 := Nat.le_trans Z0 E102.1
  have K102 := (Keep.refl h0 []).ext E102
  have f103 : Ax Z h102 b102 .byte (List.replicate (2 * nn) (.int 0)) := Ax.new (ty := .byte) (i := (2 * nn)) A102 (own_cl hz)
  refine Done.step st102 ?_
  show Aq T102 6 #[vi p1] [(.ref b102)]
  exact Done.ref X102 hx hlk hret rfl rfl rfl (hb hby d19_6) (by decide) (by decide) ⟨b102, rfl, N101, (by rw [e102]; exact ⟨K102, B102, sz_b102, f103⟩)⟩
theorem d21_0 : dq cd15 0 (.getstatic 44) 3 := by decide +kernel
theorem d21_3 : dq cd15 3 (.ifCond .ne 25) 3 := by decide +kernel
theorem d21_28 : dq cd15 28 (.iload_n 1) 1 := by decide +kernel
theorem d21_29 : dq cd15 29 (.iconst 1) 1 := by decide +kernel
theorem d21_30 : dq cd15 30 .ishl 1 := by decide +kernel
theorem d21_31 : dq cd15 31 (.istore_n 1) 1 := by decide +kernel
theorem d21_32 : dq cd15 32 (.aload_n 0) 1 := by decide +kernel
theorem d21_33 : dq cd15 33 (.iload_n 1) 1 := by decide +kernel
theorem d21_34 : dq cd15 34 (.iinc 1 1) 3 := by decide +kernel
theorem d21_37 : dq cd15 37 (.iload_n 2) 1 := by decide +kernel
theorem d21_38 : dq cd15 38 (.getstatic 59) 3 := by decide +kernel
theorem d21_41 : dq cd15 41 .ishr 1 := by decide +kernel
theorem d21_42 : dq cd15 42 .i2b 1 := by decide +kernel
theorem d21_43 : dq cd15 43 .bastore 1 := by decide +kernel
theorem d21_44 : dq cd15 44 (.aload_n 0) 1 := by decide +kernel
theorem d21_45 : dq cd15 45 (.iload_n 1) 1 := by decide +kernel
theorem d21_46 : dq cd15 46 (.iload_n 2) 1 := by decide +kernel
theorem d21_47 : dq cd15 47 (.getstatic 63) 3 := by decide +kernel
theorem d21_50 : dq cd15 50 .ishr 1 := by decide +kernel
theorem d21_51 : dq cd15 51 .i2b 1 := by decide +kernel
theorem d21_52 : dq cd15 52 .bastore 1 := by decide +kernel
theorem d21_53 : dq cd15 53 .return_ 1 := by decide +kernel
theorem pn_21 : plainName "java/lang/StringUTF16" = true := by first | (simp [plainName, overriddenIn]; done) | decide +kernel
theorem ef_21 (m : MethodId) (a1 : Addr) (p2 : Int32) (p3 : Int32) : entryFrame m #[(.ref a1), (.int p2), (.int p3)] 3 = mkF m 0 #[.val (.ref a1), .val (.int p2), .val (.int p3)] [] := by first | (simp [entryFrame, mkF, argsToLocals, Value.category]; done) | rfl
def Qrm21 (Z : State) (a1 : Addr) (p2 : Int32) (p3 : Int32) (vs : List Value) (ii : Nat) (h0 : Heap) (n0 : Nat) : Option Value → Heap → List Loc → Prop := fun v h L => v = none ∧ Fr n0 L ∧ Keep h0 h [a1] ∧ Ax Z h a1 .byte ((vs.set (2 * ii) (.int (b0 p3))).set (2 * ii + 1) (.int (b1 p3)))
set_option maxRecDepth 65536 in
set_option maxHeartbeats 40000000 in
theorem rm21 (l : Launch) (Z : State) (a0 : Array Value) (hw : HH a0 Z) (ws : List Jvm.Cond) (a1 : Addr) (p2 : Int32) (p3 : Int32) (vs : List Value) (ii : Nat) (h0 : Heap) (n0 : Nat) (Z0 : n0 ≤ h0.size) (A1 : Ax Z h0 a1 .byte vs) (g1 : n0 ≤ a1) (E1 : Fl3 Z h0 a1) (Sad : Sta Z h0 "java/lang/StringUTF16" "$assertionsDisabled" "Z" (.int 1)) (Shi : Sta Z h0 "java/lang/StringUTF16" "HI_BYTE_SHIFT" "I" (.int 0)) (Slo : Sta Z h0 "java/lang/StringUTF16" "LO_BYTE_SHIFT" "I" (.int 8)) (hp : p2.toInt = (ii : Int)) (hbd : ii ≤ 1000) (hlv : 2 * ii + 1 < vs.length) :
    MetFree l (⟨"java/lang/StringUTF16", "putChar", "([BII)V"⟩ : MethodName) (head1 (Jvm.Cond.code (⟨"java/lang/StringUTF16", "putChar", "([BII)V"⟩ : MethodName) jdk_52_method_4_code 3 none :: ws) ({ frames := 0, cells := 0, slots := 0, locals := 0 } : Room)) (fun a U => a = #[(.ref a1), (.int p2), (.int p3)] ∧ Z.Warmed39 U.vm ∧ U.heap = h0) (fun _ _ _ _ _ => True) (fun _ U o U' => ∃ v L, o = .returned v ∧ Qrm21 Z a1 p2 p3 vs ii h0 n0 v U'.heap L ∧ FrameEnd U o U' L ({ frames := 0, cells := 0, slots := 0, locals := 0 } : Room).cells ({ frames := 0, cells := 0, slots := 0, locals := 0 } : Room).slots) := by
  refine MetFree.of_bodySF (plainFor_of_name pn_21) hisR ?_
  intro p e s m args below meth c s₁ Bd hml0 hP hK
  obtain ⟨rfl, hZ, hhp⟩ := hP
  have hx := Bd.exec
  have hby := Bd.bytes
  have hml : c.maxLocals = 3 := hml0
  have hown : s.vm.findClass "java/lang/StringUTF16" = some m.cls := findClass_of_methodNamed Bd.named
  have hnm := (name_of_methodNamed Bd.named Bd.method).1
  have hlk : meth.locks = false := BodyLoose.notSynchronized Bd
  have hret := Bd.returns
  have X0 : Stand p l e ({ frames := 0, cells := 0, slots := 0, locals := 0 } : Room) s m #[(.ref a1), (.int p2), (.int p3)] below meth c s₁ [] 0 0 := Stand.of_body Bd
  have e0 : s₁.heap = h0 := by rw [← hhp, Bd.state]; rfl
  have N0 := Fr.nil n0
  show Done p e below s (Qrm21 Z a1 p2 p3 vs ii h0 n0) ({ frames := 0, cells := 0, slots := 0, locals := 0 } : Room).cells ({ frames := 0, cells := 0, slots := 0, locals := 0 } : Room).slots (s₁.setTop (entryFrame m #[(.ref a1), (.int p2), (.int p3)] 3))
  refine Done.step (fun t k => castTop (ef_21 m a1 p2 p3) k) ?_
  show Aq s₁ 0 #[vr a1, vi p2, vi p3] []
  obtain ⟨T101, X101, e101, st101⟩ := getS2 X0 hx hZ hown (host := "") (Or.inl (tw96 hw)) Via.refl e0 Sad (g := (mkF m 0 #[vr a1, vi p2, vi p3] [])) rfl (hb hby d21_0)
  refine Done.step st101 ?_
  show Aq T101 3 #[vr a1, vi p2, vi p3] [(.int 1)]
  refine Done.step (fun t k => XS.ifYes X101.here hx rfl (pc0 := 3) (pc' := 28) rfl (hb hby d21_3) rfl ((if0 _ _).trans (feq (by decide)).2) (by decide) (by decide) k) ?_
  show Aq T101 28 #[vr a1, vi p2, vi p3] []
  refine Done.step (fun t k => XS.iloadN X101.here hx rfl (hb hby d21_28) rfl k) ?_
  show Aq T101 29 #[vr a1, vi p2, vi p3] [(.int p2)]
  refine Done.step (fun t k => XS.iconst X101.here hx rfl (hb hby d21_29) k) ?_
  show Aq T101 30 #[vr a1, vi p2, vi p3] [(.int 1), (.int p2)]
  refine Done.step (fun t k => XS.ishl X101.here hx rfl (hb hby d21_30) rfl k) ?_
  show Aq T101 31 #[vr a1, vi p2, vi p3] [(.int (p2 <<< ((1 : Int32) &&& 31)))]
  refine Done.step (fun t k => XS.istoreN X101.here hx rfl (hb hby d21_31) rfl (l' := #[vr a1, vi (p2 <<< ((1 : Int32) &&& 31)), vi p3]) rfl k) ?_
  show Aq T101 32 #[vr a1, vi (p2 <<< ((1 : Int32) &&& 31)), vi p3] []
  refine Done.step (fun t k => XS.aloadN X101.here hx rfl (hb hby d21_32) rfl rfl k) ?_
  show Aq T101 33 #[vr a1, vi (p2 <<< ((1 : Int32) &&& 31)), vi p3] [(.ref a1)]
  refine Done.step (fun t k => XS.iloadN X101.here hx rfl (hb hby d21_33) rfl k) ?_
  show Aq T101 34 #[vr a1, vi (p2 <<< ((1 : Int32) &&& 31)), vi p3] [(.int (p2 <<< ((1 : Int32) &&& 31))), (.ref a1)]
  refine Done.step (fun t k => XS.iinc X101.here hx rfl (hb hby d21_34) rfl (l' := #[vr a1, vi ((p2 <<< ((1 : Int32) &&& 31)) + (1 : Int32)), vi p3]) rfl k) ?_
  show Aq T101 37 #[vr a1, vi ((p2 <<< ((1 : Int32) &&& 31)) + (1 : Int32)), vi p3] [(.int (p2 <<< ((1 : Int32) &&& 31))), (.ref a1)]
  refine Done.step (fun t k => XS.iloadN X101.here hx rfl (hb hby d21_37) rfl k) ?_
  show Aq T101 38 #[vr a1, vi ((p2 <<< ((1 : Int32) &&& 31)) + (1 : Int32)), vi p3] [(.int p3), (.int (p2 <<< ((1 : Int32) &&& 31))), (.ref a1)]
  obtain ⟨T102, X102, e102, st102⟩ := getS2 X101 hx hZ hown (host := "") (Or.inl (tw97 hw)) Via.refl e101 Shi (g := (mkF m 38 #[vr a1, vi ((p2 <<< ((1 : Int32) &&& 31)) + (1 : Int32)), vi p3] [(.int p3), (.int (p2 <<< ((1 : Int32) &&& 31))), (.ref a1)])) rfl (hb hby d21_38)
  refine Done.step st102 ?_
  show Aq T102 41 #[vr a1, vi ((p2 <<< ((1 : Int32) &&& 31)) + (1 : Int32)), vi p3] [(.int 0), (.int p3), (.int (p2 <<< ((1 : Int32) &&& 31))), (.ref a1)]
  refine Done.step (fun t k => XS.ishr X102.here hx rfl (hb hby d21_41) rfl k) ?_
  show Aq T102 42 #[vr a1, vi ((p2 <<< ((1 : Int32) &&& 31)) + (1 : Int32)), vi p3] [(.int (p3 >>> ((0 : Int32) &&& 31))), (.int (p2 <<< ((1 : Int32) &&& 31))), (.ref a1)]
  refine Done.step (fun t k => XS.i2b X102.here hx rfl (hb hby d21_42) rfl k) ?_
  show Aq T102 43 #[vr a1, vi ((p2 <<< ((1 : Int32) &&& 31)) + (1 : Int32)), vi p3] [(.int ((p3 >>> ((0 : Int32) &&& 31))).toInt8.toInt32), (.int (p2 <<< ((1 : Int32) &&& 31))), (.ref a1)]
  have hj0 : ((p2 <<< ((1 : Int32) &&& 31))).toInt = ((2 * ii : Nat) : Int) := own_shl hp hbd
  obtain ⟨T103, h103, X103, e103, W103, A103, st103⟩ := stoB X102 hx hZ e102 A1 (j := (p2 <<< ((1 : Int32) &&& 31))) (own_nneg hj0) (i := (2 * ii)) (own_cl hj0) (by omega) (g := (mkF m 43 #[vr a1, vi ((p2 <<< ((1 : Int32) &&& 31)) + (1 : Int32)), vi p3] [(.int ((p3 >>> ((0 : Int32) &&& 31))).toInt8.toInt32), (.int (p2 <<< ((1 : Int32) &&& 31))), (.ref a1)])) rfl rfl (hb hby d21_43)
  have f104 : Ax Z h103 a1 .byte (vs.set (2 * ii) (.int (nar .byte ((p3 >>> ((0 : Int32) &&& 31))).toInt8.toInt32))) := A103
  have f105 := E1.wr W103
  have f106 := Sad.wr W103
  have f107 := Shi.wr W103
  have f108 := Slo.wr W103
  have Z103 := Nat.le_trans Z0 (Keep.of_wr W103).1
  have N103 := Fr.snoc X103 N0 g1
  have K103 := (Keep.refl h0 [a1]).wr W103 (Or.inl (by simp))
  refine Done.step st103 ?_
  show Aq T103 44 #[vr a1, vi ((p2 <<< ((1 : Int32) &&& 31)) + (1 : Int32)), vi p3] []
  refine Done.step (fun t k => XS.aloadN X103.here hx rfl (hb hby d21_44) rfl rfl k) ?_
  show Aq T103 45 #[vr a1, vi ((p2 <<< ((1 : Int32) &&& 31)) + (1 : Int32)), vi p3] [(.ref a1)]
  refine Done.step (fun t k => XS.iloadN X103.here hx rfl (hb hby d21_45) rfl k) ?_
  show Aq T103 46 #[vr a1, vi ((p2 <<< ((1 : Int32) &&& 31)) + (1 : Int32)), vi p3] [(.int ((p2 <<< ((1 : Int32) &&& 31)) + (1 : Int32))), (.ref a1)]
  refine Done.step (fun t k => XS.iloadN X103.here hx rfl (hb hby d21_46) rfl k) ?_
  show Aq T103 47 #[vr a1, vi ((p2 <<< ((1 : Int32) &&& 31)) + (1 : Int32)), vi p3] [(.int p3), (.int ((p2 <<< ((1 : Int32) &&& 31)) + (1 : Int32))), (.ref a1)]
  obtain ⟨T109, X109, e109, st109⟩ := getS2 X103 hx hZ hown (host := "") (Or.inl (tw98 hw)) Via.refl e103 f108 (g := (mkF m 47 #[vr a1, vi ((p2 <<< ((1 : Int32) &&& 31)) + (1 : Int32)), vi p3] [(.int p3), (.int ((p2 <<< ((1 : Int32) &&& 31)) + (1 : Int32))), (.ref a1)])) rfl (hb hby d21_47)
  refine Done.step st109 ?_
  show Aq T109 50 #[vr a1, vi ((p2 <<< ((1 : Int32) &&& 31)) + (1 : Int32)), vi p3] [(.int 8), (.int p3), (.int ((p2 <<< ((1 : Int32) &&& 31)) + (1 : Int32))), (.ref a1)]
  refine Done.step (fun t k => XS.ishr X109.here hx rfl (hb hby d21_50) rfl k) ?_
  show Aq T109 51 #[vr a1, vi ((p2 <<< ((1 : Int32) &&& 31)) + (1 : Int32)), vi p3] [(.int (p3 >>> ((8 : Int32) &&& 31))), (.int ((p2 <<< ((1 : Int32) &&& 31)) + (1 : Int32))), (.ref a1)]
  refine Done.step (fun t k => XS.i2b X109.here hx rfl (hb hby d21_51) rfl k) ?_
  show Aq T109 52 #[vr a1, vi ((p2 <<< ((1 : Int32) &&& 31)) + (1 : Int32)), vi p3] [(.int ((p3 >>> ((8 : Int32) &&& 31))).toInt8.toInt32), (.int ((p2 <<< ((1 : Int32) &&& 31)) + (1 : Int32))), (.ref a1)]
  have hj1 : (((p2 <<< ((1 : Int32) &&& 31)) + (1 : Int32))).toInt = ((2 * ii + 1 : Nat) : Int) := own_inc (own_shl hp hbd) (by omega)
  obtain ⟨T110, h110, X110, e110, W110, A110, st110⟩ := stoB X109 hx hZ e109 f104 (j := ((p2 <<< ((1 : Int32) &&& 31)) + (1 : Int32))) (own_nneg hj1) (i := (2 * ii + 1)) (own_cl hj1) (by rw [List.length_set]; omega) (g := (mkF m 52 #[vr a1, vi ((p2 <<< ((1 : Int32) &&& 31)) + (1 : Int32)), vi p3] [(.int ((p3 >>> ((8 : Int32) &&& 31))).toInt8.toInt32), (.int ((p2 <<< ((1 : Int32) &&& 31)) + (1 : Int32))), (.ref a1)])) rfl rfl (hb hby d21_52)
  have f111 : Ax Z h110 a1 .byte ((vs.set (2 * ii) (.int (nar .byte ((p3 >>> ((0 : Int32) &&& 31))).toInt8.toInt32))).set (2 * ii + 1) (.int (nar .byte ((p3 >>> ((8 : Int32) &&& 31))).toInt8.toInt32))) := A110
  have f112 := f105.wr W110
  have f113 := f106.wr W110
  have f114 := f107.wr W110
  have f115 := f108.wr W110
  have Z110 := Nat.le_trans Z103 (Keep.of_wr W110).1
  have N110 := Fr.snoc X110 N103 g1
  have K110 := K103.wr W110 (Or.inl (by simp))
  refine Done.step st110 ?_
  show Aq T110 53 #[vr a1, vi ((p2 <<< ((1 : Int32) &&& 31)) + (1 : Int32)), vi p3] []
  exact Done.void X110 hx hlk hret (hb hby d21_53) (by decide) (by decide) ⟨rfl, N110, (by rw [e110]; exact ⟨K110, f111⟩)⟩
theorem d18_8 : dq cd16 8 (.iload 4) 2 := by decide +kernel
theorem d18_10 : dq cd16 10 (.iload_n 2) 1 := by decide +kernel
theorem d18_11 : dq cd16 11 (.if_icmp .ge 21) 3 := by decide +kernel
theorem d18_14 : dq cd16 14 (.aload_n 3) 1 := by decide +kernel
theorem d18_15 : dq cd16 15 (.iload 4) 2 := by decide +kernel
theorem d18_17 : dq cd16 17 (.aload_n 0) 1 := by decide +kernel
theorem d18_18 : dq cd16 18 (.iload_n 1) 1 := by decide +kernel
theorem d18_19 : dq cd16 19 .caload 1 := by decide +kernel
theorem d18_20 : dq cd16 20 (.invokestatic 111) 3 := by decide +kernel
theorem d18_23 : dq cd16 23 (.iinc 1 1) 3 := by decide +kernel
theorem d18_26 : dq cd16 26 (.iinc 4 1) 3 := by decide +kernel
theorem d18_29 : dq cd16 29 (.goto (-21)) 3 := by decide +kernel
theorem d18_32 : dq cd16 32 (.aload_n 3) 1 := by decide +kernel
theorem d18_33 : dq cd16 33 .areturn 1 := by decide +kernel
set_option maxRecDepth 65536 in
set_option maxHeartbeats 40000000 in
theorem lptb {p : Program} {l : Launch} {e : Env} {s : State} {m : MethodId} {args : Array Value} {below : List Frame} {meth : Method} {c : Code} {Z : State} {a0 : Array Value} {n0 : Nat} {hO : Heap} (a1 : Addr) (p3 : Int32) (a3 : Addr) (xs : List Int32)
    (hx : p.tables.exec = Jvm.exec) (hZ : Z.Warmed39 s.vm) (hw : HH a0 Z) (hby : c.code = jdk_52_method_14_code) (hml : c.maxLocals = 5) (hown : s.vm.findClass "java/lang/StringUTF16" = some m.cls) (hlk : meth.locks = false) (hret : meth.sig.returnType = (some (.array .byte) : Option FieldType)) (hnm : meth.name = "toBytes") (g3 : n0 ≤ a3) (sz_a3 : hO.size ≤ a3) (ne13 : a1 ≠ a3) (hp3 : p3.toInt = (xs.length : Int)) (hbx : xs.length ≤ 65) :
    ∀ (k : Nat) (T : State) (locs : List Loc) (h0 : Heap) (p2 : Int32) (i4 : Int32) (ii : Nat) (X0 : Stand p l e ({ frames := 2, cells := 1, slots := 130, locals := 40 } : Room) s m args below meth c T locs 1 130) (N0 : Fr n0 locs) (Z0 : n0 ≤ h0.size) (e0 : T.heap = h0) (A1 : Ax Z h0 a1 .char (xs.map Value.int)) (A3 : Ax Z h0 a3 .byte (UV (xs.take ii) ++ List.replicate (2 * (xs.length - ii)) (Value.int (0 : Int32)))) (E3 : Fl3 Z h0 a3) (Sad : Sta Z h0 "java/lang/StringUTF16" "$assertionsDisabled" "Z" (.int 1)) (Shi : Sta Z h0 "java/lang/StringUTF16" "HI_BYTE_SHIFT" "I" (.int 0)) (Slo : Sta Z h0 "java/lang/StringUTF16" "LO_BYTE_SHIFT" "I" (.int 8)) (K0 : Keep hO h0 []) (hk : xs.length - ii < k) (hi : i4.toInt = (ii : Int)) (hp2 : p2.toInt = (ii : Int)) (hil : ii ≤ xs.length), Done p e below s (fun v h L => ∃ b : Addr, v = some (.ref b) ∧ Fr n0 L ∧ Keep hO h [] ∧ Fl3 Z h b ∧ hO.size ≤ b ∧ Ax Z h b .byte (UV xs)) ({ frames := 2, cells := 1, slots := 130, locals := 40 } : Room).cells ({ frames := 2, cells := 1, slots := 130, locals := 40 } : Room).slots (T.setTop (mkF m 8 #[vr a1, vi p2, vi p3, vr a3, vi i4] [])) := by
  intro k
  induction k with
  | zero => intro T locs h0 p2 i4 ii X0 N0 Z0 e0 A1 A3 E3 Sad Shi Slo K0 hk hi hp2 hil; exact absurd hk (Nat.not_lt_zero _)
  | succ k ih =>
    intro T locs h0 p2 i4 ii X0 N0 Z0 e0 A1 A3 E3 Sad Shi Slo K0 hk hi hp2 hil
    refine Done.step (fun t k => XS.iload X0.here hx rfl (hb hby d18_8) rfl k) ?_
    show Aq T 10 #[vr a1, vi p2, vi p3, vr a3, vi i4] [(.int i4)]
    refine Done.step (fun t k => XS.iloadN X0.here hx rfl (hb hby d18_10) rfl k) ?_
    show Aq T 11 #[vr a1, vi p2, vi p3, vr a3, vi i4] [(.int p3), (.int i4)]
    by_cases c1 : i4 < p3
    · refine Done.step (fun t k => XS.icmpNo X0.here hx rfl (hb hby d18_11) rfl (tlt c1).2.1 k) ?_
      show Aq T 14 #[vr a1, vi p2, vi p3, vr a3, vi i4] []
      refine Done.step (fun t k => XS.aloadN X0.here hx rfl (hb hby d18_14) rfl rfl k) ?_
      show Aq T 15 #[vr a1, vi p2, vi p3, vr a3, vi i4] [(.ref a3)]
      refine Done.step (fun t k => XS.iload X0.here hx rfl (hb hby d18_15) rfl k) ?_
      show Aq T 17 #[vr a1, vi p2, vi p3, vr a3, vi i4] [(.int i4), (.ref a3)]
      refine Done.step (fun t k => XS.aloadN X0.here hx rfl (hb hby d18_17) rfl rfl k) ?_
      show Aq T 18 #[vr a1, vi p2, vi p3, vr a3, vi i4] [(.ref a1), (.int i4), (.ref a3)]
      refine Done.step (fun t k => XS.iloadN X0.here hx rfl (hb hby d18_18) rfl k) ?_
      show Aq T 19 #[vr a1, vi p2, vi p3, vr a3, vi i4] [(.int p2), (.ref a1), (.int i4), (.ref a3)]
      have hlt : ii < xs.length := (own_lt hi hp3).mp c1
      obtain ⟨xv, hxv⟩ : ∃ x, xs[ii]? = some x := ⟨_, List.getElem?_eq_getElem hlt⟩
      have hb3 : ii ≤ 1000 := by omega
      have hlv : 2 * ii + 1 < (UV (xs.take ii) ++ List.replicate (2 * (xs.length - ii)) (Value.int (0 : Int32))).length := by rw [List.length_append, UV.len, List.length_take, List.length_replicate]; omega
      refine Done.step (ldC X0 hx hZ e0 A1 (j := p2) (x := (.int xv)) (own_nneg hp2) (by rw [own_cl hp2, List.getElem?_map, hxv]; rfl) (g := (mkF m 19 #[vr a1, vi p2, vi p3, vr a3, vi i4] [(.int p2), (.ref a1), (.int i4), (.ref a3)])) rfl rfl (hb hby d18_19)) ?_
      show Aq T 20 #[vr a1, vi p2, vi p3, vr a3, vi i4] [(.int xv), (.int i4), (.ref a3)]
      obtain ⟨v101, _, ⟨T101, L101, k101, n101⟩, -, X101, ⟨Lc101, hQ101, l101, y101, z101⟩, st101⟩ := Jvm.LawKit.callS X0 hx (y := (⟨"java/lang/StringUTF16", "putChar", "([BII)V"⟩ : MethodName)) hown (mvT hZ (tw93 hw)) (mvT hZ (tw94 hw)) (mvT hZ (tw35 hw)) (mvT hZ (tw95 hw)) (by decide) (backOf (W := 0) (rm21 l Z a0 hw [] a3 i4 xv (UV (xs.take ii) ++ List.replicate (2 * (xs.length - ii)) (Value.int (0 : Int32))) ii h0 n0 Z0 A3 g3 E3 Sad Shi Slo hi hb3 hlv) hZ (tw95 hw) (tw35 hw) (by decide) (by decide)) (g := (mkF m 20 #[vr a1, vi p2, vi p3, vr a3, vi i4] [(.int xv), (.int i4), (.ref a3)])) rfl (by rw [hml]; rfl) (argsL := [(.ref a3), (.int i4), (.int xv)]) (rest := []) (lenOf pd_8 rfl) rfl (by show 2 * 0 + _ ≤ _; exact Nat.le_of_eq rfl) (hb hby d18_20) (fun _ _ => ⟨rfl, e0, (by decide : 1 + 0 ≤ _), (by decide : 130 + 0 ≤ _)⟩)
      dsimp only [Pt.U, Pt.locs, Pt.cells, Pt.slots] at X101 l101 y101 z101 st101 hQ101
      subst l101 y101 z101
      refine Done.step st101 ?_
      obtain ⟨rfl, N101q, K101q, x101⟩ := hQ101
      have N101 := Fr.app N0 N101q
      have f102 := A1.keep K101q (ninS ne13 nin0)
      have f103 := E3.keep K101q
      have f104 := own_stakeep Sad K101q (allS (own_unst E3) all0)
      have f105 := own_stakeep Shi K101q (allS (own_unst E3) all0)
      have f106 := own_stakeep Slo K101q (allS (own_unst E3) all0)
      have Zk101 := Nat.le_trans Z0 K101q.1
      have Kk101 := K0.trans K101q (allS (Or.inr sz_a3) all0)
      rw [own_put hxv] at x101
      show Aq T101 23 #[vr a1, vi p2, vi p3, vr a3, vi i4] []
      refine Done.step (fun t k => XS.iinc X101.here hx rfl (hb hby d18_23) rfl (l' := #[vr a1, vi (p2 + (1 : Int32)), vi p3, vr a3, vi i4]) rfl k) ?_
      show Aq T101 26 #[vr a1, vi (p2 + (1 : Int32)), vi p3, vr a3, vi i4] []
      refine Done.step (fun t k => XS.iinc X101.here hx rfl (hb hby d18_26) rfl (l' := #[vr a1, vi (p2 + (1 : Int32)), vi p3, vr a3, vi (i4 + (1 : Int32))]) rfl k) ?_
      show Aq T101 29 #[vr a1, vi (p2 + (1 : Int32)), vi p3, vr a3, vi (i4 + (1 : Int32))] []
      refine Done.step (fun t k => XS.goto X101.here hx rfl (pc0 := 29) (pc' := 8) rfl (hb hby d18_29) (by decide) (by decide) k) ?_
      show Aq T101 8 #[vr a1, vi (p2 + (1 : Int32)), vi p3, vr a3, vi (i4 + (1 : Int32))] []
      exact ih T101 _ T101.heap (p2 + (1 : Int32)) (i4 + (1 : Int32)) (ii + 1) X101 N101 Zk101 rfl f102 x101 f103 f104 f105 f106 Kk101 (by omega) (own_inc hi (by omega)) (own_inc hp2 (by omega)) (by omega)
    · refine Done.step (fun t k => XS.icmpYes X0.here hx rfl (pc0 := 11) (pc' := 32) rfl (hb hby d18_11) rfl (flt c1).2.1 (by decide) (by decide) k) ?_
      show Aq T 32 #[vr a1, vi p2, vi p3, vr a3, vi i4] []
      refine Done.step (fun t k => XS.aloadN X0.here hx rfl (hb hby d18_32) rfl rfl k) ?_
      show Aq T 33 #[vr a1, vi p2, vi p3, vr a3, vi i4] [(.ref a3)]
      have hge : ii = xs.length := by have q := Nat.not_lt.mp (fun q => c1 ((own_lt hi hp3).mpr q)); omega
      subst hge
      have A9 : Ax Z h0 a3 .byte (UV xs) := by have q := A3; rw [List.take_of_length_le (Nat.le_refl _), Nat.sub_self, Nat.mul_zero, List.replicate_zero, List.append_nil] at q; exact q
      exact Done.ref X0 hx hlk hret rfl rfl rfl (hb hby d18_33) (by decide) (by decide) ⟨a3, rfl, N0, (by rw [e0]; exact ⟨K0, E3, sz_a3, A9⟩)⟩
theorem d18_0 : dq cd16 0 (.iload_n 2) 1 := by decide +kernel
theorem d18_1 : dq cd16 1 (.invokestatic 107) 3 := by decide +kernel
theorem d18_4 : dq cd16 4 (.astore_n 3) 1 := by decide +kernel
theorem d18_5 : dq cd16 5 (.iconst 0) 1 := by decide +kernel
theorem d18_6 : dq cd16 6 (.istore 4) 2 := by decide +kernel
theorem pn_18 : plainName "java/lang/StringUTF16" = true := by first | (simp [plainName, overriddenIn]; done) | decide +kernel
theorem ef_18 (m : MethodId) (a1 : Addr) (p2 : Int32) (p3 : Int32) : entryFrame m #[(.ref a1), (.int p2), (.int p3)] 5 = mkF m 0 #[.val (.ref a1), .val (.int p2), .val (.int p3), .unset, .unset] [] := by first | (simp [entryFrame, mkF, argsToLocals, Value.category]; done) | rfl
def Qrm18 (Z : State) (a1 : Addr) (p2 : Int32) (p3 : Int32) (xs : List Int32) (h0 : Heap) (n0 : Nat) : Option Value → Heap → List Loc → Prop := fun v h L => ∃ b : Addr, v = some (.ref b) ∧ Fr n0 L ∧ Keep h0 h [] ∧ Fl3 Z h b ∧ h0.size ≤ b ∧ Ax Z h b .byte (UV xs)
set_option maxRecDepth 65536 in
set_option maxHeartbeats 40000000 in
theorem rm18 (l : Launch) (Z : State) (a0 : Array Value) (hw : HH a0 Z) (ws : List Jvm.Cond) (a1 : Addr) (p2 : Int32) (p3 : Int32) (xs : List Int32) (h0 : Heap) (n0 : Nat) (Z0 : n0 ≤ h0.size) (A1 : Ax Z h0 a1 .char (xs.map Value.int)) (Sad : Sta Z h0 "java/lang/StringUTF16" "$assertionsDisabled" "Z" (.int 1)) (Shi : Sta Z h0 "java/lang/StringUTF16" "HI_BYTE_SHIFT" "I" (.int 0)) (Slo : Sta Z h0 "java/lang/StringUTF16" "LO_BYTE_SHIFT" "I" (.int 8)) (hp2 : p2.toInt = ((0 : Nat) : Int)) (hp : p3.toInt = (xs.length : Int)) (hbd : xs.length ≤ 65) :
    MetFree l (⟨"java/lang/StringUTF16", "toBytes", "([CII)[B"⟩ : MethodName) (head1 (Jvm.Cond.code (⟨"java/lang/StringUTF16", "toBytes", "([CII)[B"⟩ : MethodName) jdk_52_method_14_code 5 (some (.array .byte)) :: ws) ({ frames := 2, cells := 1, slots := 130, locals := 40 } : Room)) (fun a U => a = #[(.ref a1), (.int p2), (.int p3)] ∧ Z.Warmed39 U.vm ∧ U.heap = h0) (fun _ _ _ _ _ => True) (fun _ U o U' => ∃ v L, o = .returned v ∧ Qrm18 Z a1 p2 p3 xs h0 n0 v U'.heap L ∧ FrameEnd U o U' L ({ frames := 2, cells := 1, slots := 130, locals := 40 } : Room).cells ({ frames := 2, cells := 1, slots := 130, locals := 40 } : Room).slots) := by
  refine MetFree.of_bodySF (plainFor_of_name pn_18) hisR ?_
  intro p e s m args below meth c s₁ Bd hml0 hP hK
  obtain ⟨rfl, hZ, hhp⟩ := hP
  have hx := Bd.exec
  have hby := Bd.bytes
  have hml : c.maxLocals = 5 := hml0
  have hown : s.vm.findClass "java/lang/StringUTF16" = some m.cls := findClass_of_methodNamed Bd.named
  have hnm := (name_of_methodNamed Bd.named Bd.method).1
  have hlk : meth.locks = false := BodyLoose.notSynchronized Bd
  have hret := Bd.returns
  have X0 : Stand p l e ({ frames := 2, cells := 1, slots := 130, locals := 40 } : Room) s m #[(.ref a1), (.int p2), (.int p3)] below meth c s₁ [] 0 0 := Stand.of_body Bd
  have e0 : s₁.heap = h0 := by rw [← hhp, Bd.state]; rfl
  have N0 := Fr.nil n0
  show Done p e below s (Qrm18 Z a1 p2 p3 xs h0 n0) ({ frames := 2, cells := 1, slots := 130, locals := 40 } : Room).cells ({ frames := 2, cells := 1, slots := 130, locals := 40 } : Room).slots (s₁.setTop (entryFrame m #[(.ref a1), (.int p2), (.int p3)] 5))
  refine Done.step (fun t k => castTop (ef_18 m a1 p2 p3) k) ?_
  show Aq s₁ 0 #[vr a1, vi p2, vi p3, vu, vu] []
  refine Done.step (fun t k => XS.iloadN X0.here hx rfl (hb hby d18_0) rfl k) ?_
  show Aq s₁ 1 #[vr a1, vi p2, vi p3, vu, vu] [(.int p3)]
  obtain ⟨v101, _, ⟨T101, L101, k101, n101⟩, -, X101, ⟨Lc101, hQ101, l101, y101, z101⟩, st101⟩ := Jvm.LawKit.callS X0 hx (y := (⟨"java/lang/StringUTF16", "newBytesFor", "(I)[B"⟩ : MethodName)) hown (mvT hZ (tw86 hw)) (mvT hZ (tw87 hw)) (mvT hZ (tw35 hw)) (mvT hZ (tw88 hw)) (by decide) (backOf (W := 0) (rm19 l Z a0 hw [] p3 xs.length h0 n0 Z0 hp hbd) hZ (tw88 hw) (tw35 hw) (by decide) (by decide)) (g := (mkF m 1 #[vr a1, vi p2, vi p3, vu, vu] [(.int p3)])) rfl (by rw [hml]; rfl) (argsL := [(.int p3)]) (rest := []) (lenOf pd_9 rfl) rfl (by show 2 * 0 + _ ≤ _; exact Nat.le_of_eq rfl) (hb hby d18_1) (fun _ _ => ⟨rfl, e0, (by decide : 0 + 1 ≤ _), (by decide : 0 + 130 ≤ _)⟩)
  dsimp only [Pt.U, Pt.locs, Pt.cells, Pt.slots] at X101 l101 y101 z101 st101 hQ101
  subst l101 y101 z101
  refine Done.step st101 ?_
  obtain ⟨r101, rfl, N101q, K101q, y101v, w101, x101⟩ := hQ101
  have N101 := Fr.app N0 N101q
  have ne102 := Nat.ne_of_lt (Nat.lt_of_lt_of_le A1.lt w101)
  have g_r101 := Nat.le_trans Z0 w101
  have sz_r101 := Nat.le_trans (Keep.refl h0 []).1 w101
  have f103 := A1.keep K101q nin0
  have f104 := own_stakeep Sad K101q all0
  have f105 := own_stakeep Shi K101q all0
  have f106 := own_stakeep Slo K101q all0
  have Zk101 := Nat.le_trans Z0 K101q.1
  have Kk101 := (Keep.refl h0 []).trans K101q all0
  show Aq T101 4 #[vr a1, vi p2, vi p3, vu, vu] [(.ref r101)]
  refine Done.step (fun t k => XS.astoreN X101.here hx rfl (hb hby d18_4) rfl rfl (l' := #[vr a1, vi p2, vi p3, vr r101, vu]) rfl k) ?_
  show Aq T101 5 #[vr a1, vi p2, vi p3, vr r101, vu] []
  refine Done.step (fun t k => XS.iconst X101.here hx rfl (hb hby d18_5) k) ?_
  show Aq T101 6 #[vr a1, vi p2, vi p3, vr r101, vu] [(.int 0)]
  refine Done.step (fun t k => XS.istore X101.here hx rfl (hb hby d18_6) rfl (l' := #[vr a1, vi p2, vi p3, vr r101, vi 0]) rfl k) ?_
  show Aq T101 8 #[vr a1, vi p2, vi p3, vr r101, vi 0] []
  exact lptb a1 p3 r101 xs hx hZ hw hby hml hown hlk hret hnm g_r101 sz_r101 ne102 hp hbd (xs.length + 1)  T101 _ T101.heap p2 (0 : Int32) 0 X101 N101 Zk101 rfl f103 x101 y101v f104 f105 f106 Kk101 (by omega) rfl hp2 (by omega)
theorem own_all {xs : List Int32} {ii : Nat} {xv : Int32} (h : ∀ (j : Nat) (x : Int32), j < ii → xs[j]? = some x → x.toInt ≤ 255) (hx : xs[ii]? = some xv) (hc : ¬ (255 : Int32) < xv) : ∀ (j : Nat) (x : Int32), j < ii + 1 → xs[j]? = some x → x.toInt ≤ 255 := by
  intro j x hj hjx
  by_cases q : j < ii
  · exact h j x q hjx
  · obtain rfl : j = ii := by omega
    rw [hx] at hjx
    obtain rfl : xv = x := Option.some.inj hjx
    have := Int.not_lt.mp (fun q => hc (Int32.lt_iff_toInt_lt.mpr q))
    have e : (255 : Int32).toInt = 255 := rfl
    omega
theorem own_mem {xs : List Int32} (h : ∀ (j : Nat) (x : Int32), j < xs.length → xs[j]? = some x → x.toInt ≤ 255) : ∀ x ∈ xs, x.toInt ≤ 255 := by
  intro x hx
  obtain ⟨j, hj⟩ := List.mem_iff_getElem?.mp hx
  exact h j x (List.getElem?_eq_some_iff.mp hj).1 hj
theorem d7_3 : dq cd17 3 (.iload 5) 2 := by decide +kernel
theorem d7_5 : dq cd17 5 (.iload 4) 2 := by decide +kernel
theorem d7_7 : dq cd17 7 (.if_icmp .ge 37) 3 := by decide +kernel
theorem d7_10 : dq cd17 10 (.aload_n 0) 1 := by decide +kernel
theorem d7_11 : dq cd17 11 (.iload_n 1) 1 := by decide +kernel
theorem d7_12 : dq cd17 12 .caload 1 := by decide +kernel
theorem d7_13 : dq cd17 13 (.istore 6) 2 := by decide +kernel
theorem d7_15 : dq cd17 15 (.iload 6) 2 := by decide +kernel
theorem d7_17 : dq cd17 17 (.sipush 255) 3 := by decide +kernel
theorem d7_20 : dq cd17 20 (.if_icmp .le 6) 3 := by decide +kernel
theorem d7_23 : dq cd17 23 (.iload 5) 2 := by decide +kernel
theorem d7_25 : dq cd17 25 .ireturn 1 := by decide +kernel
theorem d7_26 : dq cd17 26 (.aload_n 2) 1 := by decide +kernel
theorem d7_27 : dq cd17 27 (.iload_n 3) 1 := by decide +kernel
theorem d7_28 : dq cd17 28 (.iload 6) 2 := by decide +kernel
theorem d7_30 : dq cd17 30 .i2b 1 := by decide +kernel
theorem d7_31 : dq cd17 31 .bastore 1 := by decide +kernel
theorem d7_32 : dq cd17 32 (.iinc 1 1) 3 := by decide +kernel
theorem d7_35 : dq cd17 35 (.iinc 3 1) 3 := by decide +kernel
theorem d7_38 : dq cd17 38 (.iinc 5 1) 3 := by decide +kernel
theorem d7_41 : dq cd17 41 (.goto (-38)) 3 := by decide +kernel
theorem d7_44 : dq cd17 44 (.iload 4) 2 := by decide +kernel
theorem d7_46 : dq cd17 46 .ireturn 1 := by decide +kernel
set_option maxRecDepth 65536 in
set_option maxHeartbeats 40000000 in
theorem lpc5 {p : Program} {l : Launch} {e : Env} {s : State} {m : MethodId} {args : Array Value} {below : List Frame} {meth : Method} {c : Code} {Z : State} {a0 : Array Value} {n0 : Nat} {hO : Heap} (a1 : Addr) (a3 : Addr) (p5 : Int32) (xs : List Int32)
    (hx : p.tables.exec = Jvm.exec) (hZ : Z.Warmed39 s.vm) (hw : HH a0 Z) (hby : c.code = jdk_52_method_21_code) (hml : c.maxLocals = 7) (hown : s.vm.findClass "java/lang/StringUTF16" = some m.cls) (hlk : meth.locks = false) (hret : meth.sig.returnType = (some .int : Option FieldType)) (hnm : meth.name = "compress") (g3 : n0 ≤ a3) (ne13 : a1 ≠ a3) (hp5 : p5.toInt = (xs.length : Int)) (hbx : xs.length ≤ 65) :
    ∀ (k : Nat) (T : State) (locs : List Loc) (h0 : Heap) (p2 : Int32) (p4 : Int32) (i5 : Int32) (s6 : Slot) (ii : Nat) (X0 : Stand p l e ({ frames := 0, cells := 0, slots := 0, locals := 0 } : Room) s m args below meth c T locs 0 0) (N0 : Fr n0 locs) (Z0 : n0 ≤ h0.size) (e0 : T.heap = h0) (A1 : Ax Z h0 a1 .char (xs.map Value.int)) (A3 : Ax Z h0 a3 .byte ((xs.take ii).map lat ++ List.replicate (xs.length - ii) (Value.int (0 : Int32)))) (K0 : Keep hO h0 [a3]) (hs6 : s6 = Slot.unset ∨ ∃ z : Int32, s6 = vi z) (hk : xs.length - ii < k) (hi : i5.toInt = (ii : Int)) (hp2 : p2.toInt = (ii : Int)) (hp4 : p4.toInt = (ii : Int)) (hil : ii ≤ xs.length) (hall : ∀ (j : Nat) (x : Int32), j < ii → xs[j]? = some x → x.toInt ≤ 255), Done p e below s (fun v h L => ∃ r : Int32, v = some (.int r) ∧ Fr n0 L ∧ Keep hO h [a3] ∧ ((r = p5 ∧ (∀ x ∈ xs, x.toInt ≤ 255) ∧ Ax Z h a3 .byte (xs.map lat)) ∨ ∃ (k : Nat) (x : Int32), r.toInt = (k : Int) ∧ xs[k]? = some x ∧ 255 < x.toInt)) ({ frames := 0, cells := 0, slots := 0, locals := 0 } : Room).cells ({ frames := 0, cells := 0, slots := 0, locals := 0 } : Room).slots (T.setTop (mkF m 3 #[vr a1, vi p2, vr a3, vi p4, vi p5, vi i5, s6] [])) := by
  intro k
  induction k with
  | zero => intro T locs h0 p2 p4 i5 s6 ii X0 N0 Z0 e0 A1 A3 K0 hs6 hk hi hp2 hp4 hil hall; exact absurd hk (Nat.not_lt_zero _)
  | succ k ih =>
    intro T locs h0 p2 p4 i5 s6 ii X0 N0 Z0 e0 A1 A3 K0 hs6 hk hi hp2 hp4 hil hall
    refine Done.step (fun t k => XS.iload X0.here hx rfl (hb hby d7_3) rfl k) ?_
    show Aq T 5 #[vr a1, vi p2, vr a3, vi p4, vi p5, vi i5, s6] [(.int i5)]
    refine Done.step (fun t k => XS.iload X0.here hx rfl (hb hby d7_5) rfl k) ?_
    show Aq T 7 #[vr a1, vi p2, vr a3, vi p4, vi p5, vi i5, s6] [(.int p5), (.int i5)]
    by_cases c1 : i5 < p5
    · refine Done.step (fun t k => XS.icmpNo X0.here hx rfl (hb hby d7_7) rfl (tlt c1).2.1 k) ?_
      show Aq T 10 #[vr a1, vi p2, vr a3, vi p4, vi p5, vi i5, s6] []
      refine Done.step (fun t k => XS.aloadN X0.here hx rfl (hb hby d7_10) rfl rfl k) ?_
      show Aq T 11 #[vr a1, vi p2, vr a3, vi p4, vi p5, vi i5, s6] [(.ref a1)]
      refine Done.step (fun t k => XS.iloadN X0.here hx rfl (hb hby d7_11) rfl k) ?_
      show Aq T 12 #[vr a1, vi p2, vr a3, vi p4, vi p5, vi i5, s6] [(.int p2), (.ref a1)]
      have hlt : ii < xs.length := (own_lt hi hp5).mp c1
      obtain ⟨xv, hxv⟩ : ∃ x, xs[ii]? = some x := ⟨_, List.getElem?_eq_getElem hlt⟩
      refine Done.step (ldC X0 hx hZ e0 A1 (j := p2) (x := (.int xv)) (own_nneg hp2) (by rw [own_cl hp2, List.getElem?_map, hxv]; rfl) (g := (mkF m 12 #[vr a1, vi p2, vr a3, vi p4, vi p5, vi i5, s6] [(.int p2), (.ref a1)])) rfl rfl (hb hby d7_12)) ?_
      show Aq T 13 #[vr a1, vi p2, vr a3, vi p4, vi p5, vi i5, s6] [(.int xv)]
      refine Done.step (fun t k => XS.istore X0.here hx rfl (hb hby d7_13) rfl (l' := #[vr a1, vi p2, vr a3, vi p4, vi p5, vi i5, vi xv]) (by rcases hs6 with rfl | ⟨z, rfl⟩ <;> rfl) k) ?_
      show Aq T 15 #[vr a1, vi p2, vr a3, vi p4, vi p5, vi i5, vi xv] []
      refine Done.step (fun t k => XS.iload X0.here hx rfl (hb hby d7_15) rfl k) ?_
      show Aq T 17 #[vr a1, vi p2, vr a3, vi p4, vi p5, vi i5, vi xv] [(.int xv)]
      refine Done.step (fun t k => XS.sipush X0.here hx rfl (hb hby d7_17) k) ?_
      show Aq T 20 #[vr a1, vi p2, vr a3, vi p4, vi p5, vi i5, vi xv] [(.int 255), (.int xv)]
      by_cases c2 : (255 : Int32) < xv
      · refine Done.step (fun t k => XS.icmpNo X0.here hx rfl (hb hby d7_20) rfl (tlt c2).2.2.2 k) ?_
        show Aq T 23 #[vr a1, vi p2, vr a3, vi p4, vi p5, vi i5, vi xv] []
        refine Done.step (fun t k => XS.iload X0.here hx rfl (hb hby d7_23) rfl k) ?_
        show Aq T 25 #[vr a1, vi p2, vr a3, vi p4, vi p5, vi i5, vi xv] [(.int i5)]
        exact Done.int X0 hx hlk hret (hb hby d7_25) (by decide) (by decide) ⟨i5, rfl, N0, (by rw [e0]; exact ⟨K0, Or.inr ⟨ii, xv, hi, hxv, Int32.lt_iff_toInt_lt.mp c2⟩⟩)⟩
      · refine Done.step (fun t k => XS.icmpYes X0.here hx rfl (pc0 := 20) (pc' := 26) rfl (hb hby d7_20) rfl (flt c2).2.2.2 (by decide) (by decide) k) ?_
        show Aq T 26 #[vr a1, vi p2, vr a3, vi p4, vi p5, vi i5, vi xv] []
        refine Done.step (fun t k => XS.aloadN X0.here hx rfl (hb hby d7_26) rfl rfl k) ?_
        show Aq T 27 #[vr a1, vi p2, vr a3, vi p4, vi p5, vi i5, vi xv] [(.ref a3)]
        refine Done.step (fun t k => XS.iloadN X0.here hx rfl (hb hby d7_27) rfl k) ?_
        show Aq T 28 #[vr a1, vi p2, vr a3, vi p4, vi p5, vi i5, vi xv] [(.int p4), (.ref a3)]
        refine Done.step (fun t k => XS.iload X0.here hx rfl (hb hby d7_28) rfl k) ?_
        show Aq T 30 #[vr a1, vi p2, vr a3, vi p4, vi p5, vi i5, vi xv] [(.int xv), (.int p4), (.ref a3)]
        refine Done.step (fun t k => XS.i2b X0.here hx rfl (hb hby d7_30) rfl k) ?_
        show Aq T 31 #[vr a1, vi p2, vr a3, vi p4, vi p5, vi i5, vi xv] [(.int (xv).toInt8.toInt32), (.int p4), (.ref a3)]
        obtain ⟨T101, h101, X101, e101, W101, A101, st101⟩ := stoB X0 hx hZ e0 A3 (j := p4) (own_nneg hp4) (i := ii) (own_cl hp4) (by rw [List.length_append, List.length_map, List.length_take, List.length_replicate]; omega) (g := (mkF m 31 #[vr a1, vi p2, vr a3, vi p4, vi p5, vi i5, vi xv] [(.int (xv).toInt8.toInt32), (.int p4), (.ref a3)])) rfl rfl (hb hby d7_31)
        have f102 := A1.other W101 ne13
        have f103 : Ax Z h101 a3 .byte ((xs.take (ii + 1)).map lat ++ List.replicate (xs.length - (ii + 1)) (Value.int (0 : Int32))) := (by have q := A101; rw [own_put1 hxv] at q; exact q)
        have Z101 := Nat.le_trans Z0 (Keep.of_wr W101).1
        have N101 := Fr.snoc X101 N0 g3
        have K101 := K0.wr W101 (Or.inl (by simp))
        refine Done.step st101 ?_
        show Aq T101 32 #[vr a1, vi p2, vr a3, vi p4, vi p5, vi i5, vi xv] []
        refine Done.step (fun t k => XS.iinc X101.here hx rfl (hb hby d7_32) rfl (l' := #[vr a1, vi (p2 + (1 : Int32)), vr a3, vi p4, vi p5, vi i5, vi xv]) rfl k) ?_
        show Aq T101 35 #[vr a1, vi (p2 + (1 : Int32)), vr a3, vi p4, vi p5, vi i5, vi xv] []
        refine Done.step (fun t k => XS.iinc X101.here hx rfl (hb hby d7_35) rfl (l' := #[vr a1, vi (p2 + (1 : Int32)), vr a3, vi (p4 + (1 : Int32)), vi p5, vi i5, vi xv]) rfl k) ?_
        show Aq T101 38 #[vr a1, vi (p2 + (1 : Int32)), vr a3, vi (p4 + (1 : Int32)), vi p5, vi i5, vi xv] []
        refine Done.step (fun t k => XS.iinc X101.here hx rfl (hb hby d7_38) rfl (l' := #[vr a1, vi (p2 + (1 : Int32)), vr a3, vi (p4 + (1 : Int32)), vi p5, vi (i5 + (1 : Int32)), vi xv]) rfl k) ?_
        show Aq T101 41 #[vr a1, vi (p2 + (1 : Int32)), vr a3, vi (p4 + (1 : Int32)), vi p5, vi (i5 + (1 : Int32)), vi xv] []
        refine Done.step (fun t k => XS.goto X101.here hx rfl (pc0 := 41) (pc' := 3) rfl (hb hby d7_41) (by decide) (by decide) k) ?_
        show Aq T101 3 #[vr a1, vi (p2 + (1 : Int32)), vr a3, vi (p4 + (1 : Int32)), vi p5, vi (i5 + (1 : Int32)), vi xv] []
        have hall2 : ∀ (j : Nat) (x : Int32), j < ii + 1 → xs[j]? = some x → x.toInt ≤ 255 := own_all hall hxv c2
        exact ih T101 _ h101 (p2 + (1 : Int32)) (p4 + (1 : Int32)) (i5 + (1 : Int32)) (vi xv) (ii + 1) X101 N101 Z101 e101 f102 f103 K101 (Or.inr ⟨_, rfl⟩) (by omega) (own_inc hi (by omega)) (own_inc hp2 (by omega)) (own_inc hp4 (by omega)) (by omega) hall2
    · refine Done.step (fun t k => XS.icmpYes X0.here hx rfl (pc0 := 7) (pc' := 44) rfl (hb hby d7_7) rfl (flt c1).2.1 (by decide) (by decide) k) ?_
      show Aq T 44 #[vr a1, vi p2, vr a3, vi p4, vi p5, vi i5, s6] []
      refine Done.step (fun t k => XS.iload X0.here hx rfl (hb hby d7_44) rfl k) ?_
      show Aq T 46 #[vr a1, vi p2, vr a3, vi p4, vi p5, vi i5, s6] [(.int p5)]
      have hge : ii = xs.length := by have q := Nat.not_lt.mp (fun q => c1 ((own_lt hi hp5).mpr q)); omega
      subst hge
      have A9 : Ax Z h0 a3 .byte (xs.map lat) := by have q := A3; rw [List.take_of_length_le (Nat.le_refl _), Nat.sub_self, List.replicate_zero, List.append_nil] at q; exact q
      exact Done.int X0 hx hlk hret (hb hby d7_46) (by decide) (by decide) ⟨p5, rfl, N0, (by rw [e0]; exact ⟨K0, Or.inl ⟨rfl, own_mem hall, A9⟩⟩)⟩
theorem d7_0 : dq cd17 0 (.iconst 0) 1 := by decide +kernel
theorem d7_1 : dq cd17 1 (.istore 5) 2 := by decide +kernel
theorem pn_7 : plainName "java/lang/StringUTF16" = true := by first | (simp [plainName, overriddenIn]; done) | decide +kernel
theorem ef_7 (m : MethodId) (a1 : Addr) (p2 : Int32) (a3 : Addr) (p4 : Int32) (p5 : Int32) : entryFrame m #[(.ref a1), (.int p2), (.ref a3), (.int p4), (.int p5)] 7 = mkF m 0 #[.val (.ref a1), .val (.int p2), .val (.ref a3), .val (.int p4), .val (.int p5), .unset, .unset] [] := by first | (simp [entryFrame, mkF, argsToLocals, Value.category]; done) | rfl
def Qrm7 (Z : State) (a1 : Addr) (p2 : Int32) (a3 : Addr) (p4 : Int32) (p5 : Int32) (xs : List Int32) (h0 : Heap) (n0 : Nat) : Option Value → Heap → List Loc → Prop := fun v h L => ∃ r : Int32, v = some (.int r) ∧ Fr n0 L ∧ Keep h0 h [a3] ∧ ((r = p5 ∧ (∀ x ∈ xs, x.toInt ≤ 255) ∧ Ax Z h a3 .byte (xs.map lat)) ∨ ∃ (k : Nat) (x : Int32), r.toInt = (k : Int) ∧ xs[k]? = some x ∧ 255 < x.toInt)
set_option maxRecDepth 65536 in
set_option maxHeartbeats 40000000 in
theorem rm7 (l : Launch) (Z : State) (a0 : Array Value) (hw : HH a0 Z) (ws : List Jvm.Cond) (a1 : Addr) (p2 : Int32) (a3 : Addr) (p4 : Int32) (p5 : Int32) (xs : List Int32) (h0 : Heap) (n0 : Nat) (Z0 : n0 ≤ h0.size) (A1 : Ax Z h0 a1 .char (xs.map Value.int)) (A3 : Ax Z h0 a3 .byte (List.replicate xs.length (Value.int (0 : Int32)))) (g3 : n0 ≤ a3) (ne13 : a1 ≠ a3) (hp2 : p2.toInt = ((0 : Nat) : Int)) (hp4 : p4.toInt = ((0 : Nat) : Int)) (hp : p5.toInt = (xs.length : Int)) (hbd : xs.length ≤ 65) :
    MetFree l (⟨"java/lang/StringUTF16", "compress", "([CI[BII)I"⟩ : MethodName) (head1 (Jvm.Cond.code (⟨"java/lang/StringUTF16", "compress", "([CI[BII)I"⟩ : MethodName) jdk_52_method_21_code 7 (some .int) :: ws) ({ frames := 0, cells := 0, slots := 0, locals := 0 } : Room)) (fun a U => a = #[(.ref a1), (.int p2), (.ref a3), (.int p4), (.int p5)] ∧ Z.Warmed39 U.vm ∧ U.heap = h0) (fun _ _ _ _ _ => True) (fun _ U o U' => ∃ v L, o = .returned v ∧ Qrm7 Z a1 p2 a3 p4 p5 xs h0 n0 v U'.heap L ∧ FrameEnd U o U' L ({ frames := 0, cells := 0, slots := 0, locals := 0 } : Room).cells ({ frames := 0, cells := 0, slots := 0, locals := 0 } : Room).slots) := by
  refine MetFree.of_bodySF (plainFor_of_name pn_7) hisR ?_
  intro p e s m args below meth c s₁ Bd hml0 hP hK
  obtain ⟨rfl, hZ, hhp⟩ := hP
  have hx := Bd.exec
  have hby := Bd.bytes
  have hml : c.maxLocals = 7 := hml0
  have hown : s.vm.findClass "java/lang/StringUTF16" = some m.cls := findClass_of_methodNamed Bd.named
  have hnm := (name_of_methodNamed Bd.named Bd.method).1
  have hlk : meth.locks = false := BodyLoose.notSynchronized Bd
  have hret := Bd.returns
  have X0 : Stand p l e ({ frames := 0, cells := 0, slots := 0, locals := 0 } : Room) s m #[(.ref a1), (.int p2), (.ref a3), (.int p4), (.int p5)] below meth c s₁ [] 0 0 := Stand.of_body Bd
  have e0 : s₁.heap = h0 := by rw [← hhp, Bd.state]; rfl
  have N0 := Fr.nil n0
  show Done p e below s (Qrm7 Z a1 p2 a3 p4 p5 xs h0 n0) ({ frames := 0, cells := 0, slots := 0, locals := 0 } : Room).cells ({ frames := 0, cells := 0, slots := 0, locals := 0 } : Room).slots (s₁.setTop (entryFrame m #[(.ref a1), (.int p2), (.ref a3), (.int p4), (.int p5)] 7))
  refine Done.step (fun t k => castTop (ef_7 m a1 p2 a3 p4 p5) k) ?_
  show Aq s₁ 0 #[vr a1, vi p2, vr a3, vi p4, vi p5, vu, vu] []
  refine Done.step (fun t k => XS.iconst X0.here hx rfl (hb hby d7_0) k) ?_
  show Aq s₁ 1 #[vr a1, vi p2, vr a3, vi p4, vi p5, vu, vu] [(.int 0)]
  refine Done.step (fun t k => XS.istore X0.here hx rfl (hb hby d7_1) rfl (l' := #[vr a1, vi p2, vr a3, vi p4, vi p5, vi 0, vu]) rfl k) ?_
  show Aq s₁ 3 #[vr a1, vi p2, vr a3, vi p4, vi p5, vi 0, vu] []
  exact lpc5 a1 a3 p5 xs hx hZ hw hby hml hown hlk hret hnm g3 ne13 hp hbd (xs.length + 1)  s₁ _ h0 p2 p4 (0 : Int32) .unset 0 X0 N0 Z0 e0 A1 A3 (Keep.refl h0 [a3]) (Or.inl rfl) (by omega) rfl hp2 hp4 (by omega) (fun j x hj => absurd hj (Nat.not_lt_zero j))
theorem d6_0 : dq cd18 0 (.iload_n 2) 1 := by decide +kernel
theorem d6_1 : dq cd18 1 (.newarray .byte) 2 := by decide +kernel
theorem d6_3 : dq cd18 3 (.astore_n 3) 1 := by decide +kernel
theorem d6_4 : dq cd18 4 (.aload_n 0) 1 := by decide +kernel
theorem d6_5 : dq cd18 5 (.iload_n 1) 1 := by decide +kernel
theorem d6_6 : dq cd18 6 (.aload_n 3) 1 := by decide +kernel
theorem d6_7 : dq cd18 7 (.iconst 0) 1 := by decide +kernel
theorem d6_8 : dq cd18 8 (.iload_n 2) 1 := by decide +kernel
theorem d6_9 : dq cd18 9 (.invokestatic 115) 3 := by decide +kernel
theorem d6_12 : dq cd18 12 (.istore 4) 2 := by decide +kernel
theorem d6_14 : dq cd18 14 (.iload 4) 2 := by decide +kernel
theorem d6_16 : dq cd18 16 (.iload_n 2) 1 := by decide +kernel
theorem d6_17 : dq cd18 17 (.if_icmp .eq 40) 3 := by decide +kernel
theorem d6_20 : dq cd18 20 (.aload_n 0) 1 := by decide +kernel
theorem d6_21 : dq cd18 21 (.iload_n 1) 1 := by decide +kernel
theorem d6_22 : dq cd18 22 (.iload_n 2) 1 := by decide +kernel
theorem d6_23 : dq cd18 23 (.invokestatic 119) 3 := by decide +kernel
theorem d6_26 : dq cd18 26 (.astore 5) 2 := by decide +kernel
theorem d6_28 : dq cd18 28 (.aload 5) 2 := by decide +kernel
theorem d6_30 : dq cd18 30 (.iload 4) 2 := by decide +kernel
theorem d6_32 : dq cd18 32 (.invokestatic 71) 3 := by decide +kernel
theorem d6_35 : dq cd18 35 (.sipush 255) 3 := by decide +kernel
theorem d6_38 : dq cd18 38 (.if_icmp .gt 16) 3 := by decide +kernel
theorem d6_54 : dq cd18 54 (.aload 5) 2 := by decide +kernel
theorem d6_56 : dq cd18 56 .areturn 1 := by decide +kernel
theorem d6_57 : dq cd18 57 (.aload_n 3) 1 := by decide +kernel
theorem d6_58 : dq cd18 58 .areturn 1 := by decide +kernel
theorem pn_6 : plainName "java/lang/StringUTF16" = true := by first | (simp [plainName, overriddenIn]; done) | decide +kernel
theorem ef_6 (m : MethodId) (a1 : Addr) (p2 : Int32) (p3 : Int32) : entryFrame m #[(.ref a1), (.int p2), (.int p3)] 6 = mkF m 0 #[.val (.ref a1), .val (.int p2), .val (.int p3), .unset, .unset, .unset] [] := by first | (simp [entryFrame, mkF, argsToLocals, Value.category]; done) | rfl
def Qrm6 (Z : State) (a1 : Addr) (p2 : Int32) (p3 : Int32) (xs : List Int32) (h0 : Heap) (n0 : Nat) : Option Value → Heap → List Loc → Prop := fun v h L => ∃ b : Addr, v = some (.ref b) ∧ Fr n0 L ∧ Keep h0 h [] ∧ Fl3 Z h b ∧ h0.size ≤ b ∧ (((∀ x ∈ xs, x.toInt ≤ 255) ∧ Ax Z h b .byte (xs.map lat)) ∨ Ax Z h b .byte (UV xs))
set_option maxRecDepth 65536 in
set_option maxHeartbeats 40000000 in
theorem rm6 (l : Launch) (Z : State) (a0 : Array Value) (hw : HH a0 Z) (ws : List Jvm.Cond) (a1 : Addr) (p2 : Int32) (p3 : Int32) (xs : List Int32) (h0 : Heap) (n0 : Nat) (Z0 : n0 ≤ h0.size) (A1 : Ax Z h0 a1 .char (xs.map Value.int)) (Sad : Sta Z h0 "java/lang/StringUTF16" "$assertionsDisabled" "Z" (.int 1)) (Shi : Sta Z h0 "java/lang/StringUTF16" "HI_BYTE_SHIFT" "I" (.int 0)) (Slo : Sta Z h0 "java/lang/StringUTF16" "LO_BYTE_SHIFT" "I" (.int 8)) (hp20 : p2.toInt = ((0 : Nat) : Int)) (hp : p3.toInt = (xs.length : Int)) (hbd : xs.length ≤ 65) (hch : ∀ x ∈ xs, 0 ≤ x.toInt ∧ x.toInt < 65536) :
    MetFree l (⟨"java/lang/StringUTF16", "compress", "([CII)[B"⟩ : MethodName) (head1 (Jvm.Cond.code (⟨"java/lang/StringUTF16", "compress", "([CII)[B"⟩ : MethodName) jdk_52_method_16_code 6 (some (.array .byte)) :: ws) ({ frames := 3, cells := 2, slots := 195, locals := 56 } : Room)) (fun a U => a = #[(.ref a1), (.int p2), (.int p3)] ∧ Z.Warmed39 U.vm ∧ U.heap = h0) (fun _ _ _ _ _ => True) (fun _ U o U' => ∃ v L, o = .returned v ∧ Qrm6 Z a1 p2 p3 xs h0 n0 v U'.heap L ∧ FrameEnd U o U' L ({ frames := 3, cells := 2, slots := 195, locals := 56 } : Room).cells ({ frames := 3, cells := 2, slots := 195, locals := 56 } : Room).slots) := by
  refine MetFree.of_bodySF (plainFor_of_name pn_6) hisR ?_
  intro p e s m args below meth c s₁ Bd hml0 hP hK
  obtain ⟨rfl, hZ, hhp⟩ := hP
  have hx := Bd.exec
  have hby := Bd.bytes
  have hml : c.maxLocals = 6 := hml0
  have hown : s.vm.findClass "java/lang/StringUTF16" = some m.cls := findClass_of_methodNamed Bd.named
  have hnm := (name_of_methodNamed Bd.named Bd.method).1
  have hlk : meth.locks = false := BodyLoose.notSynchronized Bd
  have hret := Bd.returns
  have X0 : Stand p l e ({ frames := 3, cells := 2, slots := 195, locals := 56 } : Room) s m #[(.ref a1), (.int p2), (.int p3)] below meth c s₁ [] 0 0 := Stand.of_body Bd
  have e0 : s₁.heap = h0 := by rw [← hhp, Bd.state]; rfl
  have N0 := Fr.nil n0
  show Done p e below s (Qrm6 Z a1 p2 p3 xs h0 n0) ({ frames := 3, cells := 2, slots := 195, locals := 56 } : Room).cells ({ frames := 3, cells := 2, slots := 195, locals := 56 } : Room).slots (s₁.setTop (entryFrame m #[(.ref a1), (.int p2), (.int p3)] 6))
  refine Done.step (fun t k => castTop (ef_6 m a1 p2 p3) k) ?_
  show Aq s₁ 0 #[vr a1, vi p2, vi p3, vu, vu, vu] []
  refine Done.step (fun t k => XS.iloadN X0.here hx rfl (hb hby d6_0) rfl k) ?_
  show Aq s₁ 1 #[vr a1, vi p2, vi p3, vu, vu, vu] [(.int p3)]
  obtain ⟨T101, h101, k101, X101, e101, E101, A101, B101, st101⟩ := newPE X0 hx hZ (hw _ (List.mem_of_getElem? (i := 5) rfl)) e0 (g := (mkF m 1 #[vr a1, vi p2, vi p3, vu, vu, vu] [(.int p3)])) rfl (hb hby d6_1) rfl (own_nneg hp) (cap := 65) (by rw [own_cl hp]; exact hbd) (by decide) (by decide) (by decide) (ad := "[B") (by decide)
  obtain ⟨b101, gq101⟩ : ∃ z, z = h0.size := ⟨_, rfl⟩
  rw [← gq101] at A101 B101 st101
  have ne102 := Nat.ne_of_lt (Nat.lt_of_lt_of_le A1.lt (Nat.le_of_eq gq101.symm))
  have f103 := A1.ext E101
  have f104 := Sad.ext E101
  have f105 := Shi.ext E101
  have f106 := Slo.ext E101
  have g_b101 := Nat.le_trans Z0 (Nat.le_of_eq gq101.symm)
  have sz_b101 := Nat.le_trans (Keep.refl h0 []).1 (Nat.le_of_eq gq101.symm)
  have Z101 := Nat.le_trans Z0 E101.1
  have K101 := (Keep.refl h0 []).ext E101
  have f107 : Ax Z h101 b101 .byte (List.replicate xs.length (.int 0)) := Ax.new (ty := .byte) (i := xs.length) A101 (own_cl hp)
  refine Done.step st101 ?_
  show Aq T101 3 #[vr a1, vi p2, vi p3, vu, vu, vu] [(.ref b101)]
  refine Done.step (fun t k => XS.astoreN X101.here hx rfl (hb hby d6_3) rfl rfl (l' := #[vr a1, vi p2, vi p3, vr b101, vu, vu]) rfl k) ?_
  show Aq T101 4 #[vr a1, vi p2, vi p3, vr b101, vu, vu] []
  refine Done.step (fun t k => XS.aloadN X101.here hx rfl (hb hby d6_4) rfl rfl k) ?_
  show Aq T101 5 #[vr a1, vi p2, vi p3, vr b101, vu, vu] [(.ref a1)]
  refine Done.step (fun t k => XS.iloadN X101.here hx rfl (hb hby d6_5) rfl k) ?_
  show Aq T101 6 #[vr a1, vi p2, vi p3, vr b101, vu, vu] [(.int p2), (.ref a1)]
  refine Done.step (fun t k => XS.aloadN X101.here hx rfl (hb hby d6_6) rfl rfl k) ?_
  show Aq T101 7 #[vr a1, vi p2, vi p3, vr b101, vu, vu] [(.ref b101), (.int p2), (.ref a1)]
  refine Done.step (fun t k => XS.iconst X101.here hx rfl (hb hby d6_7) k) ?_
  show Aq T101 8 #[vr a1, vi p2, vi p3, vr b101, vu, vu] [(.int 0), (.ref b101), (.int p2), (.ref a1)]
  refine Done.step (fun t k => XS.iloadN X101.here hx rfl (hb hby d6_8) rfl k) ?_
  show Aq T101 9 #[vr a1, vi p2, vi p3, vr b101, vu, vu] [(.int p3), (.int 0), (.ref b101), (.int p2), (.ref a1)]
  obtain ⟨v108, _, ⟨T108, L108, k108, n108⟩, -, X108, ⟨Lc108, hQ108, l108, y108, z108⟩, st108⟩ := Jvm.LawKit.callS X101 hx (y := (⟨"java/lang/StringUTF16", "compress", "([CI[BII)I"⟩ : MethodName)) hown (mvT hZ (tw37 hw)) (mvT hZ (tw38 hw)) (mvT hZ (tw35 hw)) (mvT hZ (tw39 hw)) (by decide) (backOf (W := 0) (rm7 l Z a0 hw [] a1 p2 b101 (0 : Int32) p3 xs h101 n0 Z101 f103 f107 g_b101 ne102 hp20 rfl hp hbd) hZ (tw39 hw) (tw35 hw) (by decide) (by decide)) (g := (mkF m 9 #[vr a1, vi p2, vi p3, vr b101, vu, vu] [(.int p3), (.int 0), (.ref b101), (.int p2), (.ref a1)])) rfl (by rw [hml]; rfl) (argsL := [(.ref a1), (.int p2), (.ref b101), (.int 0), (.int p3)]) (rest := []) (lenOf pd_10 rfl) rfl (by show 2 * 0 + _ ≤ _; exact Nat.le_of_eq rfl) (hb hby d6_9) (fun _ _ => ⟨rfl, e101, (by decide : 1 + 0 ≤ _), (by decide : 65 + 0 ≤ _)⟩)
  dsimp only [Pt.U, Pt.locs, Pt.cells, Pt.slots] at X108 l108 y108 z108 st108 hQ108
  subst l108 y108 z108
  refine Done.step st108 ?_
  obtain ⟨r108, rfl, N108q, K108q, d108⟩ := hQ108
  have N108 := Fr.app N0 N108q
  have f109 := f103.keep K108q (ninS ne102 nin0)
  have f110 := own_stakeep f104 K108q (allS (own_unst B101) all0)
  have f111 := own_stakeep f105 K108q (allS (own_unst B101) all0)
  have f112 := own_stakeep f106 K108q (allS (own_unst B101) all0)
  have f113 := B101.keep K108q
  have Zk108 := Nat.le_trans Z101 K108q.1
  have Kk108 := K101.trans K108q (allS (Or.inr sz_b101) all0)
  show Aq T108 12 #[vr a1, vi p2, vi p3, vr b101, vu, vu] [(.int r108)]
  rcases d108 with ⟨hr, hall, Axl⟩ | ⟨kx, xx, hr, hxx, hgt⟩
  · show Aq T108 12 #[vr a1, vi p2, vi p3, vr b101, vu, vu] [(.int r108)]
    refine Done.step (fun t k => XS.istore X108.here hx rfl (hb hby d6_12) rfl (l' := #[vr a1, vi p2, vi p3, vr b101, vi r108, vu]) rfl k) ?_
    show Aq T108 14 #[vr a1, vi p2, vi p3, vr b101, vi r108, vu] []
    refine Done.step (fun t k => XS.iload X108.here hx rfl (hb hby d6_14) rfl k) ?_
    show Aq T108 16 #[vr a1, vi p2, vi p3, vr b101, vi r108, vu] [(.int r108)]
    refine Done.step (fun t k => XS.iloadN X108.here hx rfl (hb hby d6_16) rfl k) ?_
    show Aq T108 17 #[vr a1, vi p2, vi p3, vr b101, vi r108, vu] [(.int p3), (.int r108)]
    refine Done.step (fun t k => XS.icmpYes X108.here hx rfl (pc0 := 17) (pc' := 57) rfl (hb hby d6_17) rfl (teq hr).1 (by decide) (by decide) k) ?_
    show Aq T108 57 #[vr a1, vi p2, vi p3, vr b101, vi r108, vu] []
    refine Done.step (fun t k => XS.aloadN X108.here hx rfl (hb hby d6_57) rfl rfl k) ?_
    show Aq T108 58 #[vr a1, vi p2, vi p3, vr b101, vi r108, vu] [(.ref b101)]
    exact Done.ref X108 hx hlk hret rfl rfl rfl (hb hby d6_58) (by decide) (by decide) ⟨b101, rfl, N108, ⟨Kk108, f113, sz_b101, Or.inl ⟨hall, Axl⟩⟩⟩
  · have hrx := (List.getElem?_eq_some_iff.mp hxx).1
    have hx2 := hch xx (List.mem_of_getElem? hxx)
    show Aq T108 12 #[vr a1, vi p2, vi p3, vr b101, vu, vu] [(.int r108)]
    refine Done.step (fun t k => XS.istore X108.here hx rfl (hb hby d6_12) rfl (l' := #[vr a1, vi p2, vi p3, vr b101, vi r108, vu]) rfl k) ?_
    show Aq T108 14 #[vr a1, vi p2, vi p3, vr b101, vi r108, vu] []
    refine Done.step (fun t k => XS.iload X108.here hx rfl (hb hby d6_14) rfl k) ?_
    show Aq T108 16 #[vr a1, vi p2, vi p3, vr b101, vi r108, vu] [(.int r108)]
    refine Done.step (fun t k => XS.iloadN X108.here hx rfl (hb hby d6_16) rfl k) ?_
    show Aq T108 17 #[vr a1, vi p2, vi p3, vr b101, vi r108, vu] [(.int p3), (.int r108)]
    refine Done.step (fun t k => XS.icmpNo X108.here hx rfl (hb hby d6_17) rfl (feq (fun q => absurd ((own_eq hr hp).mp q) (by omega))).1 k) ?_
    show Aq T108 20 #[vr a1, vi p2, vi p3, vr b101, vi r108, vu] []
    refine Done.step (fun t k => XS.aloadN X108.here hx rfl (hb hby d6_20) rfl rfl k) ?_
    show Aq T108 21 #[vr a1, vi p2, vi p3, vr b101, vi r108, vu] [(.ref a1)]
    refine Done.step (fun t k => XS.iloadN X108.here hx rfl (hb hby d6_21) rfl k) ?_
    show Aq T108 22 #[vr a1, vi p2, vi p3, vr b101, vi r108, vu] [(.int p2), (.ref a1)]
    refine Done.step (fun t k => XS.iloadN X108.here hx rfl (hb hby d6_22) rfl k) ?_
    show Aq T108 23 #[vr a1, vi p2, vi p3, vr b101, vi r108, vu] [(.int p3), (.int p2), (.ref a1)]
    obtain ⟨v114, _, ⟨T114, L114, k114, n114⟩, -, X114, ⟨Lc114, hQ114, l114, y114, z114⟩, st114⟩ := Jvm.LawKit.callS X108 hx (y := (⟨"java/lang/StringUTF16", "toBytes", "([CII)[B"⟩ : MethodName)) hown (mvT hZ (tw83 hw)) (mvT hZ (tw84 hw)) (mvT hZ (tw35 hw)) (mvT hZ (tw85 hw)) (by decide) (backOf (W := 0) (rm18 l Z a0 hw [] a1 p2 p3 xs T108.heap n0 Zk108 f109 f110 f111 f112 hp20 hp hbd) hZ (tw85 hw) (tw35 hw) (by decide) (by decide)) (g := (mkF m 23 #[vr a1, vi p2, vi p3, vr b101, vi r108, vu] [(.int p3), (.int p2), (.ref a1)])) rfl (by rw [hml]; rfl) (argsL := [(.ref a1), (.int p2), (.int p3)]) (rest := []) (lenOf pd_11 rfl) rfl (by show 2 * 0 + _ ≤ _; exact Nat.le_of_eq rfl) (hb hby d6_23) (fun _ _ => ⟨rfl, rfl, (by decide : 1 + 1 ≤ _), (by decide : 65 + 130 ≤ _)⟩)
    dsimp only [Pt.U, Pt.locs, Pt.cells, Pt.slots] at X114 l114 y114 z114 st114 hQ114
    subst l114 y114 z114
    refine Done.step st114 ?_
    obtain ⟨r114, rfl, N114q, K114q, y114v, w114, x114⟩ := hQ114
    have N114 := Fr.app N108 N114q
    have ne115 := Nat.ne_of_lt (Nat.lt_of_lt_of_le f109.lt w114)
    have ne116 := Nat.ne_of_lt (Nat.lt_of_lt_of_le f113.lt w114)
    have g_r114 := Nat.le_trans Zk108 w114
    have sz_r114 := Nat.le_trans Kk108.1 w114
    have f117 := f109.keep K114q nin0
    have f118 := own_stakeep f110 K114q all0
    have f119 := own_stakeep f111 K114q all0
    have f120 := own_stakeep f112 K114q all0
    have f121 := f113.keep K114q
    have Zk114 := Nat.le_trans Zk108 K114q.1
    have Kk114 := Kk108.trans K114q all0
    show Aq T114 26 #[vr a1, vi p2, vi p3, vr b101, vi r108, vu] [(.ref r114)]
    refine Done.step (fun t k => XS.astore X114.here hx rfl (hb hby d6_26) rfl rfl (l' := #[vr a1, vi p2, vi p3, vr b101, vi r108, vr r114]) rfl k) ?_
    show Aq T114 28 #[vr a1, vi p2, vi p3, vr b101, vi r108, vr r114] []
    refine Done.step (fun t k => XS.aload X114.here hx rfl (hb hby d6_28) rfl rfl k) ?_
    show Aq T114 30 #[vr a1, vi p2, vi p3, vr b101, vi r108, vr r114] [(.ref r114)]
    refine Done.step (fun t k => XS.iload X114.here hx rfl (hb hby d6_30) rfl k) ?_
    show Aq T114 32 #[vr a1, vi p2, vi p3, vr b101, vi r108, vr r114] [(.int r108), (.ref r114)]
    obtain ⟨v122, _, ⟨T122, L122, k122, n122⟩, -, X122, ⟨Lc122, hQ122, l122, y122, z122⟩, st122⟩ := Jvm.LawKit.callS X114 hx (y := (⟨"java/lang/StringUTF16", "getChar", "([BI)C"⟩ : MethodName)) hown (mvT hZ (tw99 hw)) (mvT hZ (tw100 hw)) (mvT hZ (tw35 hw)) (mvT hZ (tw101 hw)) (by decide) (backOf (W := 0) (rm22 l Z a0 hw [] r114 r108 (UV xs) kx (b0 xx) (b1 xx) T114.heap n0 Zk114 x114 f118 f119 f120 hr (by omega) (UV.at0 xs kx xx hxx).1 (UV.at0 xs kx xx hxx).2) hZ (tw101 hw) (tw35 hw) (by decide) (by decide)) (g := (mkF m 32 #[vr a1, vi p2, vi p3, vr b101, vi r108, vr r114] [(.int r108), (.ref r114)])) rfl (by rw [hml]; rfl) (argsL := [(.ref r114), (.int r108)]) (rest := []) (lenOf pd_4 rfl) rfl (by show 2 * 0 + _ ≤ _; exact Nat.le_of_eq rfl) (hb hby d6_32) (fun _ _ => ⟨rfl, rfl, (by decide : 2 + 0 ≤ _), (by decide : 195 + 0 ≤ _)⟩)
    dsimp only [Pt.U, Pt.locs, Pt.cells, Pt.slots] at X122 l122 y122 z122 st122 hQ122
    subst l122 y122 z122
    refine Done.step st122 ?_
    obtain ⟨rfl, N122q, e122⟩ := hQ122
    have N122 := Fr.app N114 N122q
    show Aq T122 35 #[vr a1, vi p2, vi p3, vr b101, vi r108, vr r114] [(.int (GC (b0 xx) (b1 xx)))]
    refine Done.step (fun t k => XS.sipush X122.here hx rfl (hb hby d6_35) k) ?_
    show Aq T122 38 #[vr a1, vi p2, vi p3, vr b101, vi r108, vr r114] [(.int 255), (.int (GC (b0 xx) (b1 xx)))]
    refine Done.step (fun t k => XS.icmpYes X122.here hx rfl (pc0 := 38) (pc' := 54) rfl (hb hby d6_38) rfl (tlt (show (255 : Int32) < (GC (b0 xx) (b1 xx)) from (by rw [own_gc hx2.1 hx2.2, Int32.lt_iff_toInt_lt]; exact hgt))).2.2.1 (by decide) (by decide) k) ?_
    show Aq T122 54 #[vr a1, vi p2, vi p3, vr b101, vi r108, vr r114] []
    refine Done.step (fun t k => XS.aload X122.here hx rfl (hb hby d6_54) rfl rfl k) ?_
    show Aq T122 56 #[vr a1, vi p2, vi p3, vr b101, vi r108, vr r114] [(.ref r114)]
    exact Done.ref X122 hx hlk hret rfl rfl rfl (hb hby d6_56) (by decide) (by decide) ⟨r114, rfl, N122, (by rw [e122]; exact ⟨Kk114, y114v, sz_r114, Or.inr x114⟩)⟩
theorem d8_0 : dq cd19 0 (.iload_n 1) 1 := by decide +kernel
theorem d8_1 : dq cd19 1 (.aload_n 0) 1 := by decide +kernel
theorem d8_2 : dq cd19 2 .arraylength 1 := by decide +kernel
theorem d8_3 : dq cd19 3 .isub 1 := by decide +kernel
theorem d8_4 : dq cd19 4 (.bipush 31) 2 := by decide +kernel
theorem d8_6 : dq cd19 6 .iushr 1 := by decide +kernel
theorem d8_7 : dq cd19 7 .i2b 1 := by decide +kernel
theorem d8_8 : dq cd19 8 .ireturn 1 := by decide +kernel
theorem pn_8 : plainName "java/lang/StringUTF16" = true := by first | (simp [plainName, overriddenIn]; done) | decide +kernel
theorem ef_8 (m : MethodId) (a1 : Addr) (p2 : Int32) : entryFrame m #[(.ref a1), (.int p2)] 2 = mkF m 0 #[.val (.ref a1), .val (.int p2)] [] := by first | (simp [entryFrame, mkF, argsToLocals, Value.category]; done) | rfl
def Qrm8 (Z : State) (a1 : Addr) (p2 : Int32) (vs : List Value) (mI kk : Int32) (h0 : Heap) (n0 : Nat) : Option Value → Heap → List Loc → Prop := fun v h L => v = some (.int kk) ∧ Fr n0 L ∧ h = h0
set_option maxRecDepth 65536 in
set_option maxHeartbeats 40000000 in
theorem rm8 (l : Launch) (Z : State) (a0 : Array Value) (hw : HH a0 Z) (ws : List Jvm.Cond) (a1 : Addr) (p2 : Int32) (vs : List Value) (mI kk : Int32) (h0 : Heap) (n0 : Nat) (Z0 : n0 ≤ h0.size) (A1 : Ax Z h0 a1 .byte vs) (hl : vs.length.toInt32 = mI) (hk : nar .byte (((p2 - mI).toUInt32 >>> ((31 : Int32) &&& 31).toUInt32).toInt32).toInt8.toInt32 = kk) :
    MetFree l (⟨"java/lang/StringUTF16", "coderFromArrayLen", "([BI)B"⟩ : MethodName) (head1 (Jvm.Cond.code (⟨"java/lang/StringUTF16", "coderFromArrayLen", "([BI)B"⟩ : MethodName) jdk_52_method_15_code 2 (some .byte) :: ws) ({ frames := 0, cells := 0, slots := 0, locals := 0 } : Room)) (fun a U => a = #[(.ref a1), (.int p2)] ∧ Z.Warmed39 U.vm ∧ U.heap = h0) (fun _ _ _ _ _ => True) (fun _ U o U' => ∃ v L, o = .returned v ∧ Qrm8 Z a1 p2 vs mI kk h0 n0 v U'.heap L ∧ FrameEnd U o U' L ({ frames := 0, cells := 0, slots := 0, locals := 0 } : Room).cells ({ frames := 0, cells := 0, slots := 0, locals := 0 } : Room).slots) := by
  refine MetFree.of_bodySF (plainFor_of_name pn_8) hisR ?_
  intro p e s m args below meth c s₁ Bd hml0 hP hK
  obtain ⟨rfl, hZ, hhp⟩ := hP
  have hx := Bd.exec
  have hby := Bd.bytes
  have hml : c.maxLocals = 2 := hml0
  have hown : s.vm.findClass "java/lang/StringUTF16" = some m.cls := findClass_of_methodNamed Bd.named
  have hnm := (name_of_methodNamed Bd.named Bd.method).1
  have hlk : meth.locks = false := BodyLoose.notSynchronized Bd
  have hret := Bd.returns
  have X0 : Stand p l e ({ frames := 0, cells := 0, slots := 0, locals := 0 } : Room) s m #[(.ref a1), (.int p2)] below meth c s₁ [] 0 0 := Stand.of_body Bd
  have e0 : s₁.heap = h0 := by rw [← hhp, Bd.state]; rfl
  have N0 := Fr.nil n0
  show Done p e below s (Qrm8 Z a1 p2 vs mI kk h0 n0) ({ frames := 0, cells := 0, slots := 0, locals := 0 } : Room).cells ({ frames := 0, cells := 0, slots := 0, locals := 0 } : Room).slots (s₁.setTop (entryFrame m #[(.ref a1), (.int p2)] 2))
  refine Done.step (fun t k => castTop (ef_8 m a1 p2) k) ?_
  show Aq s₁ 0 #[vr a1, vi p2] []
  refine Done.step (fun t k => XS.iloadN X0.here hx rfl (hb hby d8_0) rfl k) ?_
  show Aq s₁ 1 #[vr a1, vi p2] [(.int p2)]
  refine Done.step (fun t k => XS.aloadN X0.here hx rfl (hb hby d8_1) rfl rfl k) ?_
  show Aq s₁ 2 #[vr a1, vi p2] [(.ref a1), (.int p2)]
  refine Done.step (lenA X0 hx hZ e0 A1 (n := mI) hl (g := (mkF m 2 #[vr a1, vi p2] [(.ref a1), (.int p2)])) rfl rfl (hb hby d8_2)) ?_
  show Aq s₁ 3 #[vr a1, vi p2] [(.int mI), (.int p2)]
  refine Done.step (fun t k => XS.isub X0.here hx rfl (hb hby d8_3) rfl k) ?_
  show Aq s₁ 4 #[vr a1, vi p2] [(.int (p2 - mI))]
  refine Done.step (fun t k => XS.bipush X0.here hx rfl (hb hby d8_4) k) ?_
  show Aq s₁ 6 #[vr a1, vi p2] [(.int 31), (.int (p2 - mI))]
  refine Done.step (fun t k => XS.iushr X0.here hx rfl (hb hby d8_6) rfl k) ?_
  show Aq s₁ 7 #[vr a1, vi p2] [(.int (((p2 - mI).toUInt32 >>> ((31 : Int32) &&& 31).toUInt32).toInt32))]
  refine Done.step (fun t k => XS.i2b X0.here hx rfl (hb hby d8_7) rfl k) ?_
  show Aq s₁ 8 #[vr a1, vi p2] [(.int ((((p2 - mI).toUInt32 >>> ((31 : Int32) &&& 31).toUInt32).toInt32)).toInt8.toInt32)]
  exact Done.narr X0 hx hlk hret (by simp) (hb hby d8_8) (by decide) (by decide) ⟨by rw [← hk], N0, e0⟩
theorem own_co0 {p m : Int32} {n : Nat} (h : p.toInt = (n : Int)) (h2 : m.toInt = (n : Int)) : nar .byte (((p - m).toUInt32 >>> ((31 : Int32) &&& 31).toUInt32).toInt32).toInt8.toInt32 = (0 : Int32) := by
  obtain rfl : p = m := Int32.toInt_inj.mp (by omega)
  rw [Int32.sub_self]; decide
theorem own_co1 {p m : Int32} {n : Nat} (h : p.toInt = (n : Int)) (h2 : m.toInt = ((2 * n : Nat) : Int)) (h0 : 0 < n) (hb : n ≤ 1000) : nar .byte (((p - m).toUInt32 >>> ((31 : Int32) &&& 31).toUInt32).toInt32).toInt8.toInt32 = (1 : Int32) := by
  have a := c_isub p m
  have r := rng32 (p - m)
  have s := c_iushr (p - m) (31 : Int32) 31 (by decide) (by decide)
  have e : ((p - m).toUInt32 >>> ((31 : Int32) &&& 31).toUInt32).toInt32 = (1 : Int32) := by
    apply Int32.toInt_inj.mp
    rw [s]; show _ = (1 : Int); omega
  rw [e]; decide
/-- how a String's three parts hang together: coder kk, bytes vs, length in bytes mI, in chars nI -/
def StrD (kk : Int32) (vs : List Value) (mI nI : Int32) (xs : List Int32) : Prop := nar .byte kk = kk ∧ vs.length.toInt32 = mI ∧ (mI >>> (kk &&& 31)) = nI ∧ nI.toInt = (xs.length : Int) ∧ xs.length ≤ 1000 ∧ (∀ x ∈ xs, 0 ≤ x.toInt ∧ x.toInt < 65536) ∧ ((kk = (0 : Int32) ∧ vs = xs.map lat ∧ ∀ x ∈ xs, x.toInt ≤ 255) ∨ (kk = (1 : Int32) ∧ vs = UV xs))
theorem own_shr0 (x : Int32) : (x >>> ((0 : Int32) &&& 31)) = x := by
  apply Int32.toInt_inj.mp
  have a := c_ishr x (0 : Int32) 0 (by decide)
  omega
theorem d4_0 : dq cd20 0 (.aload_n 0) 1 := by decide +kernel
theorem d4_1 : dq cd20 1 (.invokespecial 1) 3 := by decide +kernel
theorem d4_4 : dq cd20 4 (.iload_n 3) 1 := by decide +kernel
theorem d4_5 : dq cd20 5 (.ifCond .ne 22) 3 := by decide +kernel
theorem d4_27 : dq cd20 27 (.getstatic 38) 3 := by decide +kernel
theorem d4_30 : dq cd20 30 (.ifCond .eq 28) 3 := by decide +kernel
theorem d4_33 : dq cd20 33 (.aload_n 1) 1 := by decide +kernel
theorem d4_34 : dq cd20 34 (.iload_n 2) 1 := by decide +kernel
theorem d4_35 : dq cd20 35 (.iload_n 3) 1 := by decide +kernel
theorem d4_36 : dq cd20 36 (.invokestatic 177) 3 := by decide +kernel
theorem d4_39 : dq cd20 39 (.astore 5) 2 := by decide +kernel
theorem d4_41 : dq cd20 41 (.aload_n 0) 1 := by decide +kernel
theorem d4_42 : dq cd20 42 (.aload 5) 2 := by decide +kernel
theorem d4_44 : dq cd20 44 (.iload_n 3) 1 := by decide +kernel
theorem d4_45 : dq cd20 45 (.invokestatic 47) 3 := by decide +kernel
theorem d4_48 : dq cd20 48 (.putfield 15) 3 := by decide +kernel
theorem d4_51 : dq cd20 51 (.aload_n 0) 1 := by decide +kernel
theorem d4_52 : dq cd20 52 (.aload 5) 2 := by decide +kernel
theorem d4_54 : dq cd20 54 (.putfield 9) 3 := by decide +kernel
theorem d4_57 : dq cd20 57 .return_ 1 := by decide +kernel
theorem pn_4 : plainName "java/lang/String" = true := by first | (simp [plainName, overriddenIn]; done) | decide +kernel
theorem ef_4 (m : MethodId) (a1 : Addr) (a2 : Addr) (p3 : Int32) (p4 : Int32) : entryFrame m #[(.ref a1), (.ref a2), (.int p3), (.int p4), .null] 6 = mkF m 0 #[.val (.ref a1), .val (.ref a2), .val (.int p3), .val (.int p4), .val .null, .unset] [] := by first | (simp [entryFrame, mkF, argsToLocals, Value.category]; done) | rfl
def Qrmi4 (Z : State) (a1 : Addr) (a2 : Addr) (p3 : Int32) (p4 : Int32) (xs : List Int32) (cs : Int32) (h0 : Heap) (n0 : Nat) : Option Value → Heap → List Loc → Prop := fun v h L => v = none ∧ Fr n0 L ∧ Keep h0 h [a1] ∧ Fl2 Z h a1 ∧ ∃ (vb : Addr) (kk : Int32) (vs : List Value) (mI nI : Int32), Fl1 Z h a1 (.ref vb) ∧ Fl0 Z h a1 (.int kk) ∧ Ax Z h vb .byte vs ∧ StrD kk vs mI nI xs
set_option maxRecDepth 65536 in
set_option maxHeartbeats 40000000 in
theorem rmi4 (l : Launch) (Z : State) (a0 : Array Value) (hw : HH a0 Z) (ws : List Jvm.Cond) (a1 : Addr) (a2 : Addr) (p3 : Int32) (p4 : Int32) (xs : List Int32) (cs : Int32) (h0 : Heap) (n0 : Nat) (Z0 : n0 ≤ h0.size) (E1 : Fl2 Z h0 a1) (F1 : Fl1 Z h0 a1 .null) (F2 : Fl0 Z h0 a1 (.int 0)) (g1 : n0 ≤ a1) (E2 : Fl4 Z h0 a2) (A1 : Ax Z h0 a2 .char (xs.map Value.int)) (Scs : Sta Z h0 "java/lang/String" "COMPACT_STRINGS" "Z" (.int cs)) (Sad : Sta Z h0 "java/lang/StringUTF16" "$assertionsDisabled" "Z" (.int 1)) (Shi : Sta Z h0 "java/lang/StringUTF16" "HI_BYTE_SHIFT" "I" (.int 0)) (Slo : Sta Z h0 "java/lang/StringUTF16" "LO_BYTE_SHIFT" "I" (.int 8)) (hcs : ¬ cs = (0 : Int32)) (hp20 : p3.toInt = ((0 : Nat) : Int)) (hp : p4.toInt = (xs.length : Int)) (hbd : xs.length ≤ 65) (hn0 : 0 < xs.length) (hch : ∀ x ∈ xs, 0 ≤ x.toInt ∧ x.toInt < 65536) (ne12 : a2 ≠ a1) :
    MetFree l (⟨"java/lang/String", "<init>", "([CIILjava/lang/Void;)V"⟩ : MethodName) (head1 (Jvm.Cond.code (⟨"java/lang/String", "<init>", "([CIILjava/lang/Void;)V"⟩ : MethodName) jdk_42_method_149_code 6 none :: ws) ({ frames := 4, cells := 2, slots := 195, locals := 73 } : Room)) (fun a U => a = #[(.ref a1), (.ref a2), (.int p3), (.int p4), .null] ∧ Z.Warmed39 U.vm ∧ U.heap = h0) (fun _ _ _ _ _ => True) (fun _ U o U' => ∃ v L, o = .returned v ∧ Qrmi4 Z a1 a2 p3 p4 xs cs h0 n0 v U'.heap L ∧ FrameEnd U o U' L ({ frames := 4, cells := 2, slots := 195, locals := 73 } : Room).cells ({ frames := 4, cells := 2, slots := 195, locals := 73 } : Room).slots) := by
  refine MetFree.of_bodySF (plainFor_of_name pn_4) hisR ?_
  intro p e s m args below meth c s₁ Bd hml0 hP hK
  obtain ⟨rfl, hZ, hhp⟩ := hP
  have hx := Bd.exec
  have hby := Bd.bytes
  have hml : c.maxLocals = 6 := hml0
  have hown : s.vm.findClass "java/lang/String" = some m.cls := findClass_of_methodNamed Bd.named
  have hnm := (name_of_methodNamed Bd.named Bd.method).1
  have hlk : meth.locks = false := BodyLoose.notSynchronized Bd
  have hret := Bd.returns
  have X0 : Stand p l e ({ frames := 4, cells := 2, slots := 195, locals := 73 } : Room) s m #[(.ref a1), (.ref a2), (.int p3), (.int p4), .null] below meth c s₁ [] 0 0 := Stand.of_body Bd
  have e0 : s₁.heap = h0 := by rw [← hhp, Bd.state]; rfl
  have N0 := Fr.nil n0
  show Done p e below s (Qrmi4 Z a1 a2 p3 p4 xs cs h0 n0) ({ frames := 4, cells := 2, slots := 195, locals := 73 } : Room).cells ({ frames := 4, cells := 2, slots := 195, locals := 73 } : Room).slots (s₁.setTop (entryFrame m #[(.ref a1), (.ref a2), (.int p3), (.int p4), .null] 6))
  refine Done.step (fun t k => castTop (ef_4 m a1 a2 p3 p4) k) ?_
  show Aq s₁ 0 #[vr a1, vr a2, vi p3, vi p4, .val .null, vu] []
  refine Done.step (fun t k => XS.aloadN X0.here hx rfl (hb hby d4_0) rfl rfl k) ?_
  show Aq s₁ 1 #[vr a1, vr a2, vi p3, vi p4, .val .null, vu] [(.ref a1)]
  obtain ⟨T101, X101, e101, st101⟩ := initO X0 hx hZ hown (tw29 hw) (tw30 hw) (tw31 hw) e0 (g := (mkF m 1 #[vr a1, vr a2, vi p3, vi p4, .val .null, vu] [(.ref a1)])) rfl (by rw [hml]; rfl) rfl (hb hby d4_1) (by decide) (W := 0) (by show 2 * 0 + _ ≤ _; exact Nat.le_of_eq rfl) (by decide)
  refine Done.step st101 ?_
  show Aq T101 4 #[vr a1, vr a2, vi p3, vi p4, .val .null, vu] []
  refine Done.step (fun t k => XS.iloadN X101.here hx rfl (hb hby d4_4) rfl k) ?_
  show Aq T101 5 #[vr a1, vr a2, vi p3, vi p4, .val .null, vu] [(.int p4)]
  refine Done.step (fun t k => XS.ifYes X101.here hx rfl (pc0 := 5) (pc' := 27) rfl (hb hby d4_5) rfl ((if0 _ _).trans (feq (fun q => absurd ((own_eq hp (show (0 : Int32).toInt = ((0 : Nat) : Int) from rfl)).mp q) (by omega))).2) (by decide) (by decide) k) ?_
  show Aq T101 27 #[vr a1, vr a2, vi p3, vi p4, .val .null, vu] []
  obtain ⟨T102, X102, e102, st102⟩ := getS2 X101 hx hZ hown (host := "") (Or.inl (tw32 hw)) Via.refl e101 Scs (g := (mkF m 27 #[vr a1, vr a2, vi p3, vi p4, .val .null, vu] [])) rfl (hb hby d4_27)
  refine Done.step st102 ?_
  show Aq T102 30 #[vr a1, vr a2, vi p3, vi p4, .val .null, vu] [(.int cs)]
  refine Done.step (fun t k => XS.ifNo X102.here hx rfl (hb hby d4_30) rfl ((if0 _ _).trans (feq hcs).1) k) ?_
  show Aq T102 33 #[vr a1, vr a2, vi p3, vi p4, .val .null, vu] []
  refine Done.step (fun t k => XS.aloadN X102.here hx rfl (hb hby d4_33) rfl rfl k) ?_
  show Aq T102 34 #[vr a1, vr a2, vi p3, vi p4, .val .null, vu] [(.ref a2)]
  refine Done.step (fun t k => XS.iloadN X102.here hx rfl (hb hby d4_34) rfl k) ?_
  show Aq T102 35 #[vr a1, vr a2, vi p3, vi p4, .val .null, vu] [(.int p3), (.ref a2)]
  refine Done.step (fun t k => XS.iloadN X102.here hx rfl (hb hby d4_35) rfl k) ?_
  show Aq T102 36 #[vr a1, vr a2, vi p3, vi p4, .val .null, vu] [(.int p4), (.int p3), (.ref a2)]
  obtain ⟨v103, _, ⟨T103, L103, k103, n103⟩, -, X103, ⟨Lc103, hQ103, l103, y103, z103⟩, st103⟩ := Jvm.LawKit.callS X102 hx (y := (⟨"java/lang/StringUTF16", "compress", "([CII)[B"⟩ : MethodName)) hown (mvT hZ (tw33 hw)) (mvT hZ (tw34 hw)) (mvT hZ (tw35 hw)) (mvT hZ (tw36 hw)) (by decide) (backOf (W := 0) (rm6 l Z a0 hw [] a2 p3 p4 xs h0 n0 Z0 A1 Sad Shi Slo hp20 hp hbd hch) hZ (tw36 hw) (tw35 hw) (by decide) (by decide)) (g := (mkF m 36 #[vr a1, vr a2, vi p3, vi p4, .val .null, vu] [(.int p4), (.int p3), (.ref a2)])) rfl (by rw [hml]; rfl) (argsL := [(.ref a2), (.int p3), (.int p4)]) (rest := []) (lenOf pd_11 rfl) rfl (by show 2 * 0 + _ ≤ _; exact Nat.le_of_eq rfl) (hb hby d4_36) (fun _ _ => ⟨rfl, e102, (by decide : 0 + 2 ≤ _), (by decide : 0 + 195 ≤ _)⟩)
  dsimp only [Pt.U, Pt.locs, Pt.cells, Pt.slots] at X103 l103 y103 z103 st103 hQ103
  subst l103 y103 z103
  refine Done.step st103 ?_
  obtain ⟨r103, rfl, N103q, K103q, y103v, w103, x103⟩ := hQ103
  have N103 := Fr.app N0 N103q
  have ne104 := Nat.ne_of_lt (Nat.lt_of_lt_of_le E1.lt w103)
  have ne105 := Nat.ne_of_lt (Nat.lt_of_lt_of_le E2.lt w103)
  have g_r103 := Nat.le_trans Z0 w103
  have sz_r103 := Nat.le_trans (Keep.refl h0 [a1]).1 w103
  have f106 := E1.keep K103q
  have f107 := F1.keep K103q nin0
  have f108 := F2.keep K103q nin0
  have f109 := E2.keep K103q
  have f110 := A1.keep K103q nin0
  have f111 := own_stakeep Scs K103q all0
  have f112 := own_stakeep Sad K103q all0
  have f113 := own_stakeep Shi K103q all0
  have f114 := own_stakeep Slo K103q all0
  have Zk103 := Nat.le_trans Z0 K103q.1
  have Kk103 := (Keep.refl h0 [a1]).trans K103q all0
  show Aq T103 39 #[vr a1, vr a2, vi p3, vi p4, .val .null, vu] [(.ref r103)]
  rcases x103 with ⟨hall, Axl⟩ | Axl
  · show Aq T103 39 #[vr a1, vr a2, vi p3, vi p4, .val .null, vu] [(.ref r103)]
    refine Done.step (fun t k => XS.astore X103.here hx rfl (hb hby d4_39) rfl rfl (l' := #[vr a1, vr a2, vi p3, vi p4, .val .null, vr r103]) rfl k) ?_
    show Aq T103 41 #[vr a1, vr a2, vi p3, vi p4, .val .null, vr r103] []
    refine Done.step (fun t k => XS.aloadN X103.here hx rfl (hb hby d4_41) rfl rfl k) ?_
    show Aq T103 42 #[vr a1, vr a2, vi p3, vi p4, .val .null, vr r103] [(.ref a1)]
    refine Done.step (fun t k => XS.aload X103.here hx rfl (hb hby d4_42) rfl rfl k) ?_
    show Aq T103 44 #[vr a1, vr a2, vi p3, vi p4, .val .null, vr r103] [(.ref r103), (.ref a1)]
    refine Done.step (fun t k => XS.iloadN X103.here hx rfl (hb hby d4_44) rfl k) ?_
    show Aq T103 45 #[vr a1, vr a2, vi p3, vi p4, .val .null, vr r103] [(.int p4), (.ref r103), (.ref a1)]
    obtain ⟨v115, _, ⟨T115, L115, k115, n115⟩, -, X115, ⟨Lc115, hQ115, l115, y115, z115⟩, st115⟩ := Jvm.LawKit.callS X103 hx (y := (⟨"java/lang/StringUTF16", "coderFromArrayLen", "([BI)B"⟩ : MethodName)) hown (mvT hZ (tw40 hw)) (mvT hZ (tw41 hw)) (mvT hZ (tw35 hw)) (mvT hZ (tw42 hw)) (by decide) (backOf (W := 1) (rm8 l Z a0 hw [] r103 p4 (xs.map lat) p4 (0 : Int32) T103.heap n0 Zk103 Axl (by rw [List.length_map]; exact own_len hp) (own_co0 hp hp)) hZ (tw42 hw) (tw35 hw) (by decide) (by decide)) (g := (mkF m 45 #[vr a1, vr a2, vi p3, vi p4, .val .null, vr r103] [(.int p4), (.ref r103), (.ref a1)])) rfl (by rw [hml]; rfl) (argsL := [(.ref r103), (.int p4)]) (rest := [(.ref a1)]) (lenOf pd_12 rfl) rfl (by show 2 * 0 + _ ≤ _; exact Nat.le_of_eq rfl) (hb hby d4_45) (fun _ _ => ⟨rfl, rfl, (by decide : 2 + 0 ≤ _), (by decide : 195 + 0 ≤ _)⟩)
    dsimp only [Pt.U, Pt.locs, Pt.cells, Pt.slots] at X115 l115 y115 z115 st115 hQ115
    subst l115 y115 z115
    refine Done.step st115 ?_
    obtain ⟨rfl, N115q, e115⟩ := hQ115
    have N115 := Fr.app N103 N115q
    show Aq T115 48 #[vr a1, vr a2, vi p3, vi p4, .val .null, vr r103] [(.int 0), (.ref a1)]
    obtain ⟨T116, h116, X116, e116, W116, st116⟩ := putFN X115 hx hZ hown (tw43 hw) Via.refl e115 f108 f106 (Or.inr ⟨(tw7 hw), rfl, hnm⟩) (tw4 hw) (ty := .byte) (v' := (.int (nar .byte (0 : Int32)))) (by decide) rfl (fits_nar_byte _) (g := (mkF m 48 #[vr a1, vr a2, vi p3, vi p4, .val .null, vr r103] [(.int 0), (.ref a1)])) rfl rfl (hb hby d4_48)
    have f117 := f106.wr W116
    have f118 := f107.other W116 (Or.inr (slot_ne (Or.inr (tw6 hw)) (Or.inr (tw7 hw)) (by decide) (t := (.array .byte)) (t' := .byte) (by decide) (by decide)))
    have f119 := f108.same W116
    have f120 := f109.wr W116
    have f121 := f110.other W116 ne12
    have f122 := f111.wr W116
    have f123 := f112.wr W116
    have f124 := f113.wr W116
    have f125 := f114.wr W116
    have f126 := y103v.wr W116
    have f127 := Axl.other W116 (Ne.symm ne104)
    have Z116 := Nat.le_trans Zk103 (Keep.of_wr W116).1
    have N116 := Fr.snoc X116 N115 g1
    have K116 := Kk103.wr W116 (Or.inl (by simp))
    refine Done.step st116 ?_
    show Aq T116 51 #[vr a1, vr a2, vi p3, vi p4, .val .null, vr r103] []
    refine Done.step (fun t k => XS.aloadN X116.here hx rfl (hb hby d4_51) rfl rfl k) ?_
    show Aq T116 52 #[vr a1, vr a2, vi p3, vi p4, .val .null, vr r103] [(.ref a1)]
    refine Done.step (fun t k => XS.aload X116.here hx rfl (hb hby d4_52) rfl rfl k) ?_
    show Aq T116 54 #[vr a1, vr a2, vi p3, vi p4, .val .null, vr r103] [(.ref r103), (.ref a1)]
    obtain ⟨T128, h128, X128, e128, W128, st128⟩ := putF X116 hx hZ hown (host := "") (Or.inl (tw19 hw)) Via.refl e116 f118 f117 (Or.inr ⟨(tw6 hw), rfl, hnm⟩) (tw4 hw) (ty := (.array .byte)) (by decide) rfl rfl (g := (mkF m 54 #[vr a1, vr a2, vi p3, vi p4, .val .null, vr r103] [(.ref r103), (.ref a1)])) rfl rfl (hb hby d4_54)
    have f129 := f117.wr W128
    have f130 := f118.same W128
    have f131 := f119.other W128 (Or.inr (slot_ne (Or.inr (tw7 hw)) (Or.inr (tw6 hw)) (by decide) (t := .byte) (t' := (.array .byte)) (by decide) (by decide)))
    have f132 := f120.wr W128
    have f133 := f121.other W128 ne12
    have f134 := f122.wr W128
    have f135 := f123.wr W128
    have f136 := f124.wr W128
    have f137 := f125.wr W128
    have f138 := f126.wr W128
    have f139 := f127.other W128 (Ne.symm ne104)
    have Z128 := Nat.le_trans Z116 (Keep.of_wr W128).1
    have N128 := Fr.snoc X128 N116 g1
    have K128 := K116.wr W128 (Or.inl (by simp))
    refine Done.step st128 ?_
    show Aq T128 57 #[vr a1, vr a2, vi p3, vi p4, .val .null, vr r103] []
    exact Done.void X128 hx hlk hret (hb hby d4_57) (by decide) (by decide) ⟨rfl, N128, (by rw [e128]; exact ⟨K128, f129, r103, (0 : Int32), _, _, p4, f130, f131, f139, ⟨rfl, own_len (n := (xs.map lat).length) (by rw [List.length_map]; exact hp), own_shr0 _, hp, by omega, hch, Or.inl ⟨rfl, rfl, hall⟩⟩⟩)⟩
  · have hm : (p4 <<< ((1 : Int32) &&& 31)).toInt = ((2 * xs.length : Nat) : Int) := own_shl hp (by omega)
    show Aq T103 39 #[vr a1, vr a2, vi p3, vi p4, .val .null, vu] [(.ref r103)]
    refine Done.step (fun t k => XS.astore X103.here hx rfl (hb hby d4_39) rfl rfl (l' := #[vr a1, vr a2, vi p3, vi p4, .val .null, vr r103]) rfl k) ?_
    show Aq T103 41 #[vr a1, vr a2, vi p3, vi p4, .val .null, vr r103] []
    refine Done.step (fun t k => XS.aloadN X103.here hx rfl (hb hby d4_41) rfl rfl k) ?_
    show Aq T103 42 #[vr a1, vr a2, vi p3, vi p4, .val .null, vr r103] [(.ref a1)]
    refine Done.step (fun t k => XS.aload X103.here hx rfl (hb hby d4_42) rfl rfl k) ?_
    show Aq T103 44 #[vr a1, vr a2, vi p3, vi p4, .val .null, vr r103] [(.ref r103), (.ref a1)]
    refine Done.step (fun t k => XS.iloadN X103.here hx rfl (hb hby d4_44) rfl k) ?_
    show Aq T103 45 #[vr a1, vr a2, vi p3, vi p4, .val .null, vr r103] [(.int p4), (.ref r103), (.ref a1)]
    obtain ⟨v140, _, ⟨T140, L140, k140, n140⟩, -, X140, ⟨Lc140, hQ140, l140, y140, z140⟩, st140⟩ := Jvm.LawKit.callS X103 hx (y := (⟨"java/lang/StringUTF16", "coderFromArrayLen", "([BI)B"⟩ : MethodName)) hown (mvT hZ (tw40 hw)) (mvT hZ (tw41 hw)) (mvT hZ (tw35 hw)) (mvT hZ (tw42 hw)) (by decide) (backOf (W := 1) (rm8 l Z a0 hw [] r103 p4 (UV xs) (p4 <<< ((1 : Int32) &&& 31)) (1 : Int32) T103.heap n0 Zk103 Axl (by rw [UV.len]; exact own_len hm) (own_co1 hp hm hn0 (by omega))) hZ (tw42 hw) (tw35 hw) (by decide) (by decide)) (g := (mkF m 45 #[vr a1, vr a2, vi p3, vi p4, .val .null, vr r103] [(.int p4), (.ref r103), (.ref a1)])) rfl (by rw [hml]; rfl) (argsL := [(.ref r103), (.int p4)]) (rest := [(.ref a1)]) (lenOf pd_12 rfl) rfl (by show 2 * 0 + _ ≤ _; exact Nat.le_of_eq rfl) (hb hby d4_45) (fun _ _ => ⟨rfl, rfl, (by decide : 2 + 0 ≤ _), (by decide : 195 + 0 ≤ _)⟩)
    dsimp only [Pt.U, Pt.locs, Pt.cells, Pt.slots] at X140 l140 y140 z140 st140 hQ140
    subst l140 y140 z140
    refine Done.step st140 ?_
    obtain ⟨rfl, N140q, e140⟩ := hQ140
    have N140 := Fr.app N103 N140q
    show Aq T140 48 #[vr a1, vr a2, vi p3, vi p4, .val .null, vr r103] [(.int 1), (.ref a1)]
    obtain ⟨T141, h141, X141, e141, W141, st141⟩ := putFN X140 hx hZ hown (tw43 hw) Via.refl e140 f108 f106 (Or.inr ⟨(tw7 hw), rfl, hnm⟩) (tw4 hw) (ty := .byte) (v' := (.int (nar .byte (1 : Int32)))) (by decide) rfl (fits_nar_byte _) (g := (mkF m 48 #[vr a1, vr a2, vi p3, vi p4, .val .null, vr r103] [(.int 1), (.ref a1)])) rfl rfl (hb hby d4_48)
    have f142 := f106.wr W141
    have f143 := f107.other W141 (Or.inr (slot_ne (Or.inr (tw6 hw)) (Or.inr (tw7 hw)) (by decide) (t := (.array .byte)) (t' := .byte) (by decide) (by decide)))
    have f144 := f108.same W141
    have f145 := f109.wr W141
    have f146 := f110.other W141 ne12
    have f147 := f111.wr W141
    have f148 := f112.wr W141
    have f149 := f113.wr W141
    have f150 := f114.wr W141
    have f151 := y103v.wr W141
    have f152 := Axl.other W141 (Ne.symm ne104)
    have Z141 := Nat.le_trans Zk103 (Keep.of_wr W141).1
    have N141 := Fr.snoc X141 N140 g1
    have K141 := Kk103.wr W141 (Or.inl (by simp))
    refine Done.step st141 ?_
    show Aq T141 51 #[vr a1, vr a2, vi p3, vi p4, .val .null, vr r103] []
    refine Done.step (fun t k => XS.aloadN X141.here hx rfl (hb hby d4_51) rfl rfl k) ?_
    show Aq T141 52 #[vr a1, vr a2, vi p3, vi p4, .val .null, vr r103] [(.ref a1)]
    refine Done.step (fun t k => XS.aload X141.here hx rfl (hb hby d4_52) rfl rfl k) ?_
    show Aq T141 54 #[vr a1, vr a2, vi p3, vi p4, .val .null, vr r103] [(.ref r103), (.ref a1)]
    obtain ⟨T153, h153, X153, e153, W153, st153⟩ := putF X141 hx hZ hown (host := "") (Or.inl (tw19 hw)) Via.refl e141 f143 f142 (Or.inr ⟨(tw6 hw), rfl, hnm⟩) (tw4 hw) (ty := (.array .byte)) (by decide) rfl rfl (g := (mkF m 54 #[vr a1, vr a2, vi p3, vi p4, .val .null, vr r103] [(.ref r103), (.ref a1)])) rfl rfl (hb hby d4_54)
    have f154 := f142.wr W153
    have f155 := f143.same W153
    have f156 := f144.other W153 (Or.inr (slot_ne (Or.inr (tw7 hw)) (Or.inr (tw6 hw)) (by decide) (t := .byte) (t' := (.array .byte)) (by decide) (by decide)))
    have f157 := f145.wr W153
    have f158 := f146.other W153 ne12
    have f159 := f147.wr W153
    have f160 := f148.wr W153
    have f161 := f149.wr W153
    have f162 := f150.wr W153
    have f163 := f151.wr W153
    have f164 := f152.other W153 (Ne.symm ne104)
    have Z153 := Nat.le_trans Z141 (Keep.of_wr W153).1
    have N153 := Fr.snoc X153 N141 g1
    have K153 := K141.wr W153 (Or.inl (by simp))
    refine Done.step st153 ?_
    show Aq T153 57 #[vr a1, vr a2, vi p3, vi p4, .val .null, vr r103] []
    exact Done.void X153 hx hlk hret (hb hby d4_57) (by decide) (by decide) ⟨rfl, N153, (by rw [e153]; exact ⟨K153, f154, r103, (1 : Int32), _, _, p4, f155, f156, f164, ⟨rfl, own_len (n := (UV xs).length) (by rw [UV.len]; exact hm), Int32.toInt_inj.mp ((own_shr hm).trans hp.symm), hp, by omega, hch, Or.inr ⟨rfl, rfl⟩⟩⟩)⟩
theorem d3_0 : dq cd21 0 (.aload_n 0) 1 := by decide +kernel
theorem d3_1 : dq cd21 1 (.aload_n 1) 1 := by decide +kernel
theorem d3_2 : dq cd21 2 (.iconst 0) 1 := by decide +kernel
theorem d3_3 : dq cd21 3 (.aload_n 1) 1 := by decide +kernel
theorem d3_4 : dq cd21 4 .arraylength 1 := by decide +kernel
theorem d3_5 : dq cd21 5 .aconst_null 1 := by decide +kernel
theorem d3_6 : dq cd21 6 (.invokespecial 27) 3 := by decide +kernel
theorem d3_9 : dq cd21 9 .return_ 1 := by decide +kernel
theorem pn_3 : plainName "java/lang/String" = true := by first | (simp [plainName, overriddenIn]; done) | decide +kernel
theorem ef_3 (m : MethodId) (a1 : Addr) (a2 : Addr) : entryFrame m #[(.ref a1), (.ref a2)] 2 = mkF m 0 #[.val (.ref a1), .val (.ref a2)] [] := by first | (simp [entryFrame, mkF, argsToLocals, Value.category]; done) | rfl
def Qrm3 (Z : State) (a1 : Addr) (a2 : Addr) (xs : List Int32) (cs nL : Int32) (h0 : Heap) (n0 : Nat) : Option Value → Heap → List Loc → Prop := fun v h L => v = none ∧ Fr n0 L ∧ Keep h0 h [a1] ∧ Fl2 Z h a1 ∧ ∃ (vb : Addr) (kk : Int32) (vs : List Value) (mI nI : Int32), Fl1 Z h a1 (.ref vb) ∧ Fl0 Z h a1 (.int kk) ∧ Ax Z h vb .byte vs ∧ StrD kk vs mI nI xs
set_option maxRecDepth 65536 in
set_option maxHeartbeats 40000000 in
theorem rm3 (l : Launch) (Z : State) (a0 : Array Value) (hw : HH a0 Z) (ws : List Jvm.Cond) (a1 : Addr) (a2 : Addr) (xs : List Int32) (cs nL : Int32) (h0 : Heap) (n0 : Nat) (Z0 : n0 ≤ h0.size) (E1 : Fl2 Z h0 a1) (F1 : Fl1 Z h0 a1 .null) (F2 : Fl0 Z h0 a1 (.int 0)) (g1 : n0 ≤ a1) (E2 : Fl4 Z h0 a2) (A1 : Ax Z h0 a2 .char (xs.map Value.int)) (Scs : Sta Z h0 "java/lang/String" "COMPACT_STRINGS" "Z" (.int cs)) (Sad : Sta Z h0 "java/lang/StringUTF16" "$assertionsDisabled" "Z" (.int 1)) (Shi : Sta Z h0 "java/lang/StringUTF16" "HI_BYTE_SHIFT" "I" (.int 0)) (Slo : Sta Z h0 "java/lang/StringUTF16" "LO_BYTE_SHIFT" "I" (.int 8)) (hcs : ¬ cs = (0 : Int32)) (hp : nL.toInt = (xs.length : Int)) (hbd : xs.length ≤ 65) (hn0 : 0 < xs.length) (hch : ∀ x ∈ xs, 0 ≤ x.toInt ∧ x.toInt < 65536) (ne12 : a2 ≠ a1) :
    MetFree l (⟨"java/lang/String", "<init>", "([C)V"⟩ : MethodName) (head1 (Jvm.Cond.code (⟨"java/lang/String", "<init>", "([C)V"⟩ : MethodName) jdk_42_method_3_code 2 none :: ws) ({ frames := 5, cells := 2, slots := 195, locals := 90 } : Room)) (fun a U => a = #[(.ref a1), (.ref a2)] ∧ Z.Warmed39 U.vm ∧ U.heap = h0) (fun _ _ _ _ _ => True) (fun _ U o U' => ∃ v L, o = .returned v ∧ Qrm3 Z a1 a2 xs cs nL h0 n0 v U'.heap L ∧ FrameEnd U o U' L ({ frames := 5, cells := 2, slots := 195, locals := 90 } : Room).cells ({ frames := 5, cells := 2, slots := 195, locals := 90 } : Room).slots) := by
  refine MetFree.of_bodySF (plainFor_of_name pn_3) hisR ?_
  intro p e s m args below meth c s₁ Bd hml0 hP hK
  obtain ⟨rfl, hZ, hhp⟩ := hP
  have hx := Bd.exec
  have hby := Bd.bytes
  have hml : c.maxLocals = 2 := hml0
  have hown : s.vm.findClass "java/lang/String" = some m.cls := findClass_of_methodNamed Bd.named
  have hnm := (name_of_methodNamed Bd.named Bd.method).1
  have hlk : meth.locks = false := BodyLoose.notSynchronized Bd
  have hret := Bd.returns
  have X0 : Stand p l e ({ frames := 5, cells := 2, slots := 195, locals := 90 } : Room) s m #[(.ref a1), (.ref a2)] below meth c s₁ [] 0 0 := Stand.of_body Bd
  have e0 : s₁.heap = h0 := by rw [← hhp, Bd.state]; rfl
  have N0 := Fr.nil n0
  show Done p e below s (Qrm3 Z a1 a2 xs cs nL h0 n0) ({ frames := 5, cells := 2, slots := 195, locals := 90 } : Room).cells ({ frames := 5, cells := 2, slots := 195, locals := 90 } : Room).slots (s₁.setTop (entryFrame m #[(.ref a1), (.ref a2)] 2))
  refine Done.step (fun t k => castTop (ef_3 m a1 a2) k) ?_
  show Aq s₁ 0 #[vr a1, vr a2] []
  refine Done.step (fun t k => XS.aloadN X0.here hx rfl (hb hby d3_0) rfl rfl k) ?_
  show Aq s₁ 1 #[vr a1, vr a2] [(.ref a1)]
  refine Done.step (fun t k => XS.aloadN X0.here hx rfl (hb hby d3_1) rfl rfl k) ?_
  show Aq s₁ 2 #[vr a1, vr a2] [(.ref a2), (.ref a1)]
  refine Done.step (fun t k => XS.iconst X0.here hx rfl (hb hby d3_2) k) ?_
  show Aq s₁ 3 #[vr a1, vr a2] [(.int 0), (.ref a2), (.ref a1)]
  refine Done.step (fun t k => XS.aloadN X0.here hx rfl (hb hby d3_3) rfl rfl k) ?_
  show Aq s₁ 4 #[vr a1, vr a2] [(.ref a2), (.int 0), (.ref a2), (.ref a1)]
  refine Done.step (lenA X0 hx hZ e0 A1 (n := nL) (by rw [List.length_map]; exact own_len hp) (g := (mkF m 4 #[vr a1, vr a2] [(.ref a2), (.int 0), (.ref a2), (.ref a1)])) rfl rfl (hb hby d3_4)) ?_
  show Aq s₁ 5 #[vr a1, vr a2] [(.int nL), (.int 0), (.ref a2), (.ref a1)]
  refine Done.step (fun t k => XS.aconstNull X0.here hx rfl (hb hby d3_5) k) ?_
  show Aq s₁ 6 #[vr a1, vr a2] [.null, (.int nL), (.int 0), (.ref a2), (.ref a1)]
  obtain ⟨v101, _, ⟨T101, L101, k101, n101⟩, -, X101, ⟨Lc101, hQ101, l101, y101, z101⟩, st101⟩ := X0.specialBack hx (y := (⟨"java/lang/String", "<init>", "([CIILjava/lang/Void;)V"⟩ : MethodName)) rfl hown (mvT hZ (tw25 hw)) (mvT hZ (tw26 hw)) (mvT hZ (tw28 hw)) (by decide) (backOf (W := 0) (rmi4 l Z a0 hw [] a1 a2 (0 : Int32) nL xs cs h0 n0 Z0 E1 F1 F2 g1 E2 A1 Scs Sad Shi Slo hcs rfl hp hbd hn0 hch ne12) hZ (tw28 hw) (tw3 hw) (by decide) (by decide)) (g := (mkF m 6 #[vr a1, vr a2] [.null, (.int nL), (.int 0), (.ref a2), (.ref a1)])) rfl (by rw [hml]; rfl) (Steps.refl _) (a := a1) (argsL := [(.ref a2), (.int 0), (.int nL), .null]) (rest := []) (lenOf pd_13 rfl) rfl (by show 2 * 0 + _ ≤ _; exact Nat.le_of_eq rfl) (hb hby d3_6) (fun _ _ => ⟨rfl, e0, (by decide : 0 + 2 ≤ _), (by decide : 0 + 195 ≤ _)⟩)
  dsimp only [Pt.U, Pt.locs, Pt.cells, Pt.slots] at X101 l101 y101 z101 st101 hQ101
  subst l101 y101 z101
  refine Done.far st101 ?_
  obtain ⟨rfl, N101q, K101q, xE101, vb101, kk101, vs101, mI101, nI101, xF101, xG101, xA101, hD101⟩ := hQ101
  have N101 := Fr.app N0 N101q
  have f102 := E1.keep K101q
  have f103 := E2.keep K101q
  have f104 := A1.keep K101q (ninS ne12 nin0)
  have f105 := own_stakeep Scs K101q (allS (own_unst E1) all0)
  have f106 := own_stakeep Sad K101q (allS (own_unst E1) all0)
  have f107 := own_stakeep Shi K101q (allS (own_unst E1) all0)
  have f108 := own_stakeep Slo K101q (allS (own_unst E1) all0)
  have Zk101 := Nat.le_trans Z0 K101q.1
  have Kk101 := (Keep.refl h0 [a1]).trans K101q (allS (Or.inl (by simp)) all0)
  show Aq T101 9 #[vr a1, vr a2] []
  exact Done.void X101 hx hlk hret (hb hby d3_9) (by decide) (by decide) ⟨rfl, N101, ⟨Kk101, f102, vb101, kk101, vs101, mI101, nI101, xF101, xG101, xA101, hD101⟩⟩
def Qrmch (Z : State) (a1 : Addr) (p2 : Int32) (vb : Addr) (kk : Int32) (vs : List Value) (mI nI cs : Int32) (sv : Value) (xs : List Int32) (ii : Nat) (xv : Int32) (h0 : Heap) (n0 : Nat) : Option Value → Heap → List Loc → Prop := fun v h L => v = some (.int xv) ∧ Fr n0 L ∧ h = h0
set_option maxRecDepth 65536 in
set_option maxHeartbeats 40000000 in
theorem rmch (l : Launch) (Z : State) (a0 : Array Value) (hw : HH a0 Z) (ws : List Jvm.Cond) (a1 : Addr) (p2 : Int32) (vb : Addr) (kk : Int32) (vs : List Value) (mI nI cs : Int32) (sv : Value) (xs : List Int32) (ii : Nat) (xv : Int32) (h0 : Heap) (n0 : Nat) (Z0 : n0 ≤ h0.size) (E1 : Fl2 Z h0 a1) (F1 : Fl1 Z h0 a1 (.ref vb)) (F2 : Fl0 Z h0 a1 (.int kk)) (A1 : Ax Z h0 vb .byte vs) (D : StrD kk vs mI nI xs) (Scs : Sta Z h0 "java/lang/String" "COMPACT_STRINGS" "Z" (.int cs)) (Ssx : Sta Z h0 "jdk/internal/util/Preconditions" "SIOOBE_FORMATTER" "Ljava/util/function/BiFunction;" sv) (hsv : sv.isRef = true) (Sad : Sta Z h0 "java/lang/StringUTF16" "$assertionsDisabled" "Z" (.int 1)) (Shi : Sta Z h0 "java/lang/StringUTF16" "HI_BYTE_SHIFT" "I" (.int 0)) (Slo : Sta Z h0 "java/lang/StringUTF16" "LO_BYTE_SHIFT" "I" (.int 8)) (hcs : ¬ cs = (0 : Int32)) (hp : p2.toInt = (ii : Int)) (hxv : xs[ii]? = some xv) :
    MetFree l (⟨"java/lang/String", "charAt", "(I)C"⟩ : MethodName) (head1 (Jvm.Cond.code (⟨"java/lang/String", "charAt", "(I)C"⟩ : MethodName) jdk_42_method_56_code 2 (some .char) :: ws) ({ frames := 5, cells := 0, slots := 0, locals := 80 } : Room)) (fun a U => a = #[(.ref a1), (.int p2)] ∧ Z.Warmed39 U.vm ∧ U.heap = h0) (fun _ _ _ _ _ => True) (fun _ U o U' => ∃ v L, o = .returned v ∧ Qrmch Z a1 p2 vb kk vs mI nI cs sv xs ii xv h0 n0 v U'.heap L ∧ FrameEnd U o U' L ({ frames := 5, cells := 0, slots := 0, locals := 80 } : Room).cells ({ frames := 5, cells := 0, slots := 0, locals := 80 } : Room).slots) := by
  obtain ⟨hk, hl, hn, hni, hbd, hch, hd⟩ := D
  have hlt := (List.getElem?_eq_some_iff.mp hxv).1
  have hxr := hch xv (List.mem_of_getElem? hxv)
  rcases hd with ⟨rfl, rfl, hall⟩ | ⟨rfl, rfl⟩
  · have hm : mI.toInt = (xs.length : Int) := by rw [own_shr0] at hn; rw [hn]; exact hni
    have q := rmch0 l Z a0 hw ws a1 p2 vb (xs.map lat) mI cs sv ii (nar .byte (xv.toInt8.toInt32)) h0 n0 Z0 E1 F1 F2 A1 hl Scs Ssx hsv hcs (own_nneg hp) ((own_lt hp hm).mpr hlt) hp (by rw [List.getElem?_map, hxv]; rfl)
    unfold Qrmch0 at q
    rw [own_lc hxr.1 (hall xv (List.mem_of_getElem? hxv))] at q
    exact q
  · have q := rmch1 l Z a0 hw ws a1 p2 vb (UV xs) mI cs sv ii (b0 xv) (b1 xv) h0 n0 Z0 E1 F1 F2 A1 hl Scs Ssx hsv Sad Shi Slo hcs (own_nneg hp) (by rw [hn]; exact (own_lt hp hni).mpr hlt) hp (by omega) (UV.at0 xs ii xv hxv).1 (UV.at0 xs ii xv hxv).2
    unfold Qrmch1 at q
    rw [own_gc hxr.1 hxr.2] at q
    exact q
theorem tl32_0 : (0 : Int32).toInt = 0 := by decide
theorem tl32_1 : (1 : Int32).toInt = 1 := by decide
theorem tl32_122 : (122 : Int32).toInt = 122 := by decide
theorem tl32_45 : (45 : Int32).toInt = 45 := by decide
theorem tl32_46 : (46 : Int32).toInt = 46 := by decide
theorem tl32_48 : (48 : Int32).toInt = 48 := by decide
theorem tl32_57 : (57 : Int32).toInt = 57 := by decide
theorem tl32_65 : (65 : Int32).toInt = 65 := by decide
theorem tl32_90 : (90 : Int32).toInt = 90 := by decide
theorem tl32_95 : (95 : Int32).toInt = 95 := by decide
theorem tl32_97 : (97 : Int32).toInt = 97 := by decide
def Okc (x : Int32) : Prop := (65 ≤ x.toInt ∧ x.toInt ≤ 90) ∨ (97 ≤ x.toInt ∧ x.toInt ≤ 122) ∨ (48 ≤ x.toInt ∧ x.toInt ≤ 57) ∨ x.toInt = 46 ∨ x.toInt = 45 ∨ x.toInt = 95
theorem own_okT {x : Int32} (h : Okc x) : F9 x = (1 : Int32) := by
  unfold Okc at h
  unfold F9
  simp only [Int32.lt_iff_toInt_lt, ← Int32.toInt_inj, tl32_0, tl32_1, tl32_122, tl32_45, tl32_46, tl32_48, tl32_57, tl32_65, tl32_90, tl32_95, tl32_97]
  repeat' split
  all_goals first | rfl | (exfalso; omega)
theorem own_okN {x : Int32} (h : ¬ Okc x) : F9 x = (0 : Int32) := by
  unfold Okc at h
  unfold F9
  simp only [Int32.lt_iff_toInt_lt, ← Int32.toInt_inj, tl32_0, tl32_1, tl32_122, tl32_45, tl32_46, tl32_48, tl32_57, tl32_65, tl32_90, tl32_95, tl32_97]
  repeat' split
  all_goals first | rfl | (exfalso; omega)
theorem own_okF {x : Int32} (h : ¬ Okc x) : ¬ F9 x = (1 : Int32) := by rw [own_okN h]; decide
theorem own_ok01 {x : Int32} (h : ¬ F9 x = (0 : Int32)) : F9 x = (1 : Int32) := by
  by_cases q : Okc x
  · exact own_okT q
  · exact absurd (own_okN q) h
def MO : List Int32 → Int32
  | [] => (1 : Int32)
  | x :: t => if F9 x = (1 : Int32) then MO t else (0 : Int32)
theorem own_moT : ∀ xs : List Int32, (∀ x ∈ xs, ¬ F9 x = (0 : Int32)) → MO xs = (1 : Int32)
  | [], _ => rfl
  | x :: t, h => by rw [MO, if_pos (own_ok01 (h x (by simp)))]; exact own_moT t fun y hy => h y (by simp [hy])
theorem own_moF : ∀ (xs : List Int32) (x : Int32), x ∈ xs → F9 x = (0 : Int32) → MO xs = (0 : Int32)
  | [], x, h, _ => by simp at h
  | y :: t, x, h, hx => by
    rw [MO]
    by_cases q : F9 y = (1 : Int32)
    · rw [if_pos q]
      rcases List.mem_cons.mp h with rfl | h
      · rw [hx] at q; exact absurd q (by decide)
      · exact own_moF t x h hx
    · rw [if_neg q]
theorem own_dr {xs : List Int32} {ii : Nat} {x : Int32} (h : xs[ii]? = some x) : xs.drop ii = x :: xs.drop (ii + 1) := by
  obtain ⟨hl, rfl⟩ := List.getElem?_eq_some_iff.mp h
  exact List.drop_eq_getElem_cons hl
theorem d12_2 : dq cd22 2 (.iload_n 2) 1 := by decide +kernel
theorem d12_3 : dq cd22 3 (.aload_n 0) 1 := by decide +kernel
theorem d12_4 : dq cd22 4 (.invokevirtual 13) 3 := by decide +kernel
theorem d12_7 : dq cd22 7 (.if_icmp .ge 93) 3 := by decide +kernel
theorem d12_10 : dq cd22 10 (.aload_n 0) 1 := by decide +kernel
theorem d12_11 : dq cd22 11 (.iload_n 2) 1 := by decide +kernel
theorem d12_12 : dq cd22 12 (.invokevirtual 50) 3 := by decide +kernel
theorem d12_15 : dq cd22 15 (.istore_n 3) 1 := by decide +kernel
theorem d12_16 : dq cd22 16 (.iload_n 3) 1 := by decide +kernel
theorem d12_17 : dq cd22 17 (.bipush 65) 2 := by decide +kernel
theorem d12_19 : dq cd22 19 (.if_icmp .lt 9) 3 := by decide +kernel
theorem d12_22 : dq cd22 22 (.iload_n 3) 1 := by decide +kernel
theorem d12_23 : dq cd22 23 (.bipush 90) 2 := by decide +kernel
theorem d12_25 : dq cd22 25 (.if_icmp .le 55) 3 := by decide +kernel
theorem d12_28 : dq cd22 28 (.iload_n 3) 1 := by decide +kernel
theorem d12_29 : dq cd22 29 (.bipush 97) 2 := by decide +kernel
theorem d12_31 : dq cd22 31 (.if_icmp .lt 9) 3 := by decide +kernel
theorem d12_34 : dq cd22 34 (.iload_n 3) 1 := by decide +kernel
theorem d12_35 : dq cd22 35 (.bipush 122) 2 := by decide +kernel
theorem d12_37 : dq cd22 37 (.if_icmp .le 43) 3 := by decide +kernel
theorem d12_40 : dq cd22 40 (.iload_n 3) 1 := by decide +kernel
theorem d12_41 : dq cd22 41 (.bipush 48) 2 := by decide +kernel
theorem d12_43 : dq cd22 43 (.if_icmp .lt 9) 3 := by decide +kernel
theorem d12_46 : dq cd22 46 (.iload_n 3) 1 := by decide +kernel
theorem d12_47 : dq cd22 47 (.bipush 57) 2 := by decide +kernel
theorem d12_49 : dq cd22 49 (.if_icmp .le 31) 3 := by decide +kernel
theorem d12_52 : dq cd22 52 (.iload_n 3) 1 := by decide +kernel
theorem d12_53 : dq cd22 53 (.bipush 46) 2 := by decide +kernel
theorem d12_55 : dq cd22 55 (.if_icmp .eq 25) 3 := by decide +kernel
theorem d12_58 : dq cd22 58 (.iload_n 3) 1 := by decide +kernel
theorem d12_59 : dq cd22 59 (.bipush 45) 2 := by decide +kernel
theorem d12_61 : dq cd22 61 (.if_icmp .eq 19) 3 := by decide +kernel
theorem d12_64 : dq cd22 64 (.iload_n 3) 1 := by decide +kernel
theorem d12_65 : dq cd22 65 (.bipush 95) 2 := by decide +kernel
theorem d12_67 : dq cd22 67 (.if_icmp .eq 13) 3 := by decide +kernel
theorem d12_70 : dq cd22 70 (.iload_n 1) 1 := by decide +kernel
theorem d12_71 : dq cd22 71 (.ifCond .eq 13) 3 := by decide +kernel
theorem d12_80 : dq cd22 80 (.iconst 1) 1 := by decide +kernel
theorem d12_81 : dq cd22 81 (.goto 4) 3 := by decide +kernel
theorem d12_84 : dq cd22 84 (.iconst 0) 1 := by decide +kernel
theorem d12_85 : dq cd22 85 (.istore 4) 2 := by decide +kernel
theorem d12_87 : dq cd22 87 (.iload 4) 2 := by decide +kernel
theorem d12_89 : dq cd22 89 (.ifCond .ne 5) 3 := by decide +kernel
theorem d12_92 : dq cd22 92 (.iconst 0) 1 := by decide +kernel
theorem d12_93 : dq cd22 93 .ireturn 1 := by decide +kernel
theorem d12_94 : dq cd22 94 (.iinc 2 1) 3 := by decide +kernel
theorem d12_97 : dq cd22 97 (.goto (-95)) 3 := by decide +kernel
theorem d12_100 : dq cd22 100 (.iconst 1) 1 := by decide +kernel
theorem d12_101 : dq cd22 101 .ireturn 1 := by decide +kernel
set_option maxRecDepth 65536 in
set_option maxHeartbeats 40000000 in
theorem lpmo {p : Program} {l : Launch} {e : Env} {s : State} {m : MethodId} {args : Array Value} {below : List Frame} {meth : Method} {c : Code} {Z : State} {a0 : Array Value} {h0 : Heap} {n0 : Nat} (a1 : Addr) (vb : Addr) (kk : Int32) (vs : List Value) (mI nI cs : Int32) (sv : Value) (xs : List Int32) (R : Int32)
    (hx : p.tables.exec = Jvm.exec) (hZ : Z.Warmed39 s.vm) (hw : HH a0 Z) (hby : c.code = prog_7_method_5_code) (hml : c.maxLocals = 5) (hown : s.vm.findClass "com/example/stowage/stowage/model/Names" = some m.cls) (hlk : meth.locks = false) (hret : meth.sig.returnType = (some .boolean : Option FieldType)) (hnm : meth.name = "madeOf") (E1 : Fl2 Z h0 a1) (F1 : Fl1 Z h0 a1 (.ref vb)) (F2 : Fl0 Z h0 a1 (.int kk)) (A1 : Ax Z h0 vb .byte vs) (D : StrD kk vs mI nI xs) (Scs : Sta Z h0 "java/lang/String" "COMPACT_STRINGS" "Z" (.int cs)) (Ssx : Sta Z h0 "jdk/internal/util/Preconditions" "SIOOBE_FORMATTER" "Ljava/util/function/BiFunction;" sv) (hsv : sv.isRef = true) (Sad : Sta Z h0 "java/lang/StringUTF16" "$assertionsDisabled" "Z" (.int 1)) (Shi : Sta Z h0 "java/lang/StringUTF16" "HI_BYTE_SHIFT" "I" (.int 0)) (Slo : Sta Z h0 "java/lang/StringUTF16" "LO_BYTE_SHIFT" "I" (.int 8)) (hcs : ¬ cs = (0 : Int32)) :
    ∀ (k : Nat) (T : State) (locs : List Loc) (i2 : Int32) (s3 : Slot) (s4 : Slot) (ii : Nat) (X0 : Stand p l e ({ frames := 6, cells := 0, slots := 0, locals := 110 } : Room) s m args below meth c T locs 0 0) (N0 : Fr n0 locs) (Z0 : n0 ≤ h0.size) (e0 : T.heap = h0) (hs3 : s3 = Slot.unset ∨ ∃ z : Int32, s3 = vi z) (hs4 : s4 = Slot.unset ∨ ∃ z : Int32, s4 = vi z) (hk : xs.length - ii < k) (hi : i2.toInt = (ii : Int)) (hil : ii ≤ xs.length) (hR : MO (xs.drop ii) = R), Done p e below s (fun v h L => v = some (.int R) ∧ Fr n0 L ∧ h = h0) ({ frames := 6, cells := 0, slots := 0, locals := 110 } : Room).cells ({ frames := 6, cells := 0, slots := 0, locals := 110 } : Room).slots (T.setTop (mkF m 2 #[vr a1, vi 0, vi i2, s3, s4] [])) := by
  intro k
  induction k with
  | zero => intro T locs i2 s3 s4 ii X0 N0 Z0 e0 hs3 hs4 hk hi hil hR; exact absurd hk (Nat.not_lt_zero _)
  | succ k ih =>
    intro T locs i2 s3 s4 ii X0 N0 Z0 e0 hs3 hs4 hk hi hil hR
    refine Done.step (fun t k => XS.iloadN X0.here hx rfl (hb hby d12_2) rfl k) ?_
    show Aq T 3 #[vr a1, vi 0, vi i2, s3, s4] [(.int i2)]
    refine Done.step (fun t k => XS.aloadN X0.here hx rfl (hb hby d12_3) rfl rfl k) ?_
    show Aq T 4 #[vr a1, vi 0, vi i2, s3, s4] [(.ref a1), (.int i2)]
    obtain ⟨cq101, kq101, q101a, q101b, q101c⟩ := isOf hZ e0 E1
    obtain ⟨v101, _, ⟨T101, L101, k101, n101⟩, -, X101, ⟨Lc101, hQ101, l101, y101, z101⟩, st101⟩ := X0.virtualBack hx (y := (⟨"java/lang/String", "length", "()I"⟩ : MethodName)) (z := (⟨"java/lang/String", "length", "()I"⟩ : MethodName)) hown (mvT hZ (tw48 hw)) (mvT hZ (tw49 hw)) (notFace_of_selects (args := #[]) (mvT hZ (tw51 hw))) (mvT hZ (tw51 hw)) (mvT hZ (tw50 hw)) (by decide) (backOf (W := 1) (rmlen l Z a0 hw [] a1 vb kk vs mI cs nI h0 n0 Z0 E1 F1 F2 A1 D.2.1 Scs hcs D.1 D.2.2.1) hZ (tw52 hw) (tw3 hw) (by decide) (by decide)) q101a q101c (g := (mkF m 4 #[vr a1, vi 0, vi i2, s3, s4] [(.ref a1), (.int i2)])) rfl (by rw [hml]; rfl) (Steps.refl _) (argsL := []) (rest := [(.int i2)]) (lenOf pd_14 rfl) rfl (by show 2 * 0 + _ ≤ _; exact Nat.le_of_eq rfl) (hb hby d12_4) (fun _ _ => ⟨rfl, e0, (by decide : 0 + 0 ≤ _), (by decide : 0 + 0 ≤ _)⟩)
    dsimp only [Pt.U, Pt.locs, Pt.cells, Pt.slots] at X101 l101 y101 z101 st101 hQ101
    subst l101 y101 z101
    refine Done.far st101 ?_
    obtain ⟨rfl, N101q, e101⟩ := hQ101
    have N101 := Fr.app N0 N101q
    show Aq T101 7 #[vr a1, vi 0, vi i2, s3, s4] [(.int nI), (.int i2)]
    by_cases c1 : i2 < nI
    · refine Done.step (fun t k => XS.icmpNo X101.here hx rfl (hb hby d12_7) rfl (tlt c1).2.1 k) ?_
      show Aq T101 10 #[vr a1, vi 0, vi i2, s3, s4] []
      have hlt : ii < xs.length := (own_lt hi D.2.2.2.1).mp c1
      obtain ⟨xv, hxv⟩ : ∃ x, xs[ii]? = some x := ⟨_, List.getElem?_eq_getElem hlt⟩
      rw [own_dr hxv] at hR
      refine Done.step (fun t k => XS.aloadN X101.here hx rfl (hb hby d12_10) rfl rfl k) ?_
      show Aq T101 11 #[vr a1, vi 0, vi i2, s3, s4] [(.ref a1)]
      refine Done.step (fun t k => XS.iloadN X101.here hx rfl (hb hby d12_11) rfl k) ?_
      show Aq T101 12 #[vr a1, vi 0, vi i2, s3, s4] [(.int i2), (.ref a1)]
      obtain ⟨cq102, kq102, q102a, q102b, q102c⟩ := isOf hZ e101 E1
      obtain ⟨v102, _, ⟨T102, L102, k102, n102⟩, -, X102, ⟨Lc102, hQ102, l102, y102, z102⟩, st102⟩ := X101.virtualBack hx (y := (⟨"java/lang/String", "charAt", "(I)C"⟩ : MethodName)) (z := (⟨"java/lang/String", "charAt", "(I)C"⟩ : MethodName)) hown (mvT hZ (tw61 hw)) (mvT hZ (tw62 hw)) (notFace_of_selects (args := #[]) (mvT hZ (tw64 hw))) (mvT hZ (tw64 hw)) (mvT hZ (tw63 hw)) (by decide) (backOf (W := 0) (rmch l Z a0 hw [] a1 i2 vb kk vs mI nI cs sv xs ii xv h0 n0 Z0 E1 F1 F2 A1 D Scs Ssx hsv Sad Shi Slo hcs hi hxv) hZ (tw65 hw) (tw3 hw) (by decide) (by decide)) q102a q102c (g := (mkF m 12 #[vr a1, vi 0, vi i2, s3, s4] [(.int i2), (.ref a1)])) rfl (by rw [hml]; rfl) (Steps.refl _) (argsL := [(.int i2)]) (rest := []) (lenOf pd_15 rfl) rfl (by show 2 * 0 + _ ≤ _; exact Nat.le_of_eq rfl) (hb hby d12_12) (fun _ _ => ⟨rfl, e101, (by decide : 0 + 0 ≤ _), (by decide : 0 + 0 ≤ _)⟩)
      dsimp only [Pt.U, Pt.locs, Pt.cells, Pt.slots] at X102 l102 y102 z102 st102 hQ102
      subst l102 y102 z102
      refine Done.far st102 ?_
      obtain ⟨rfl, N102q, e102⟩ := hQ102
      have N102 := Fr.app N101 N102q
      show Aq T102 15 #[vr a1, vi 0, vi i2, s3, s4] [(.int xv)]
      refine Done.step (fun t k => XS.istoreN X102.here hx rfl (hb hby d12_15) rfl (l' := #[vr a1, vi 0, vi i2, vi xv, s4]) (by rcases hs3 with rfl | ⟨z, rfl⟩ <;> rfl) k) ?_
      show Aq T102 16 #[vr a1, vi 0, vi i2, vi xv, s4] []
      refine Done.step (fun t k => XS.iloadN X102.here hx rfl (hb hby d12_16) rfl k) ?_
      show Aq T102 17 #[vr a1, vi 0, vi i2, vi xv, s4] [(.int xv)]
      refine Done.step (fun t k => XS.bipush X102.here hx rfl (hb hby d12_17) k) ?_
      show Aq T102 19 #[vr a1, vi 0, vi i2, vi xv, s4] [(.int 65), (.int xv)]
      by_cases c2 : xv < (65 : Int32)
      · refine Done.step (fun t k => XS.icmpYes X102.here hx rfl (pc0 := 19) (pc' := 28) rfl (hb hby d12_19) rfl (tlt c2).1 (by decide) (by decide) k) ?_
        show Aq T102 28 #[vr a1, vi 0, vi i2, vi xv, s4] []
        refine Done.step (fun t k => XS.iloadN X102.here hx rfl (hb hby d12_28) rfl k) ?_
        show Aq T102 29 #[vr a1, vi 0, vi i2, vi xv, s4] [(.int xv)]
        refine Done.step (fun t k => XS.bipush X102.here hx rfl (hb hby d12_29) k) ?_
        show Aq T102 31 #[vr a1, vi 0, vi i2, vi xv, s4] [(.int 97), (.int xv)]
        by_cases c3 : xv < (97 : Int32)
        · refine Done.step (fun t k => XS.icmpYes X102.here hx rfl (pc0 := 31) (pc' := 40) rfl (hb hby d12_31) rfl (tlt c3).1 (by decide) (by decide) k) ?_
          show Aq T102 40 #[vr a1, vi 0, vi i2, vi xv, s4] []
          refine Done.step (fun t k => XS.iloadN X102.here hx rfl (hb hby d12_40) rfl k) ?_
          show Aq T102 41 #[vr a1, vi 0, vi i2, vi xv, s4] [(.int xv)]
          refine Done.step (fun t k => XS.bipush X102.here hx rfl (hb hby d12_41) k) ?_
          show Aq T102 43 #[vr a1, vi 0, vi i2, vi xv, s4] [(.int 48), (.int xv)]
          by_cases c4 : xv < (48 : Int32)
          · refine Done.step (fun t k => XS.icmpYes X102.here hx rfl (pc0 := 43) (pc' := 52) rfl (hb hby d12_43) rfl (tlt c4).1 (by decide) (by decide) k) ?_
            show Aq T102 52 #[vr a1, vi 0, vi i2, vi xv, s4] []
            refine Done.step (fun t k => XS.iloadN X102.here hx rfl (hb hby d12_52) rfl k) ?_
            show Aq T102 53 #[vr a1, vi 0, vi i2, vi xv, s4] [(.int xv)]
            refine Done.step (fun t k => XS.bipush X102.here hx rfl (hb hby d12_53) k) ?_
            show Aq T102 55 #[vr a1, vi 0, vi i2, vi xv, s4] [(.int 46), (.int xv)]
            by_cases c5 : xv = (46 : Int32)
            · refine Done.step (fun t k => XS.icmpYes X102.here hx rfl (pc0 := 55) (pc' := 80) rfl (hb hby d12_55) rfl (teq c5).1 (by decide) (by decide) k) ?_
              show Aq T102 80 #[vr a1, vi 0, vi i2, vi xv, s4] []
              refine Done.step (fun t k => XS.iconst X102.here hx rfl (hb hby d12_80) k) ?_
              show Aq T102 81 #[vr a1, vi 0, vi i2, vi xv, s4] [(.int 1)]
              refine Done.step (fun t k => XS.goto X102.here hx rfl (pc0 := 81) (pc' := 85) rfl (hb hby d12_81) (by decide) (by decide) k) ?_
              show Aq T102 85 #[vr a1, vi 0, vi i2, vi xv, s4] [(.int 1)]
              refine Done.step (fun t k => XS.istore X102.here hx rfl (hb hby d12_85) rfl (l' := #[vr a1, vi 0, vi i2, vi xv, vi 1]) (by rcases hs4 with rfl | ⟨z, rfl⟩ <;> rfl) k) ?_
              show Aq T102 87 #[vr a1, vi 0, vi i2, vi xv, vi 1] []
              refine Done.step (fun t k => XS.iload X102.here hx rfl (hb hby d12_87) rfl k) ?_
              show Aq T102 89 #[vr a1, vi 0, vi i2, vi xv, vi 1] [(.int 1)]
              refine Done.step (fun t k => XS.ifYes X102.here hx rfl (pc0 := 89) (pc' := 94) rfl (hb hby d12_89) rfl ((if0 _ _).trans (feq (by decide)).2) (by decide) (by decide) k) ?_
              show Aq T102 94 #[vr a1, vi 0, vi i2, vi xv, vi 1] []
              refine Done.step (fun t k => XS.iinc X102.here hx rfl (hb hby d12_94) rfl (l' := #[vr a1, vi 0, vi (i2 + (1 : Int32)), vi xv, vi 1]) rfl k) ?_
              show Aq T102 97 #[vr a1, vi 0, vi (i2 + (1 : Int32)), vi xv, vi 1] []
              refine Done.step (fun t k => XS.goto X102.here hx rfl (pc0 := 97) (pc' := 2) rfl (hb hby d12_97) (by decide) (by decide) k) ?_
              show Aq T102 2 #[vr a1, vi 0, vi (i2 + (1 : Int32)), vi xv, vi 1] []
              have hok : Okc xv := by
                simp only [Int32.lt_iff_toInt_lt, ← Int32.toInt_inj, tl32_0, tl32_1, tl32_122, tl32_45, tl32_46, tl32_48, tl32_57, tl32_65, tl32_90, tl32_95, tl32_97] at c2 c3 c4 c5
                unfold Okc; omega
              rw [MO, if_pos (own_okT hok)] at hR
              exact ih T102 _ (i2 + (1 : Int32)) (vi xv) (vi 1) (ii + 1) X102 N102 Z0 e102 (Or.inr ⟨_, rfl⟩) (Or.inr ⟨_, rfl⟩) (by omega) (own_inc hi (by have := D.2.2.2.2.1; omega)) (by omega) hR
            · refine Done.step (fun t k => XS.icmpNo X102.here hx rfl (hb hby d12_55) rfl (feq c5).1 k) ?_
              show Aq T102 58 #[vr a1, vi 0, vi i2, vi xv, s4] []
              refine Done.step (fun t k => XS.iloadN X102.here hx rfl (hb hby d12_58) rfl k) ?_
              show Aq T102 59 #[vr a1, vi 0, vi i2, vi xv, s4] [(.int xv)]
              refine Done.step (fun t k => XS.bipush X102.here hx rfl (hb hby d12_59) k) ?_
              show Aq T102 61 #[vr a1, vi 0, vi i2, vi xv, s4] [(.int 45), (.int xv)]
              by_cases c6 : xv = (45 : Int32)
              · refine Done.step (fun t k => XS.icmpYes X102.here hx rfl (pc0 := 61) (pc' := 80) rfl (hb hby d12_61) rfl (teq c6).1 (by decide) (by decide) k) ?_
                show Aq T102 80 #[vr a1, vi 0, vi i2, vi xv, s4] []
                refine Done.step (fun t k => XS.iconst X102.here hx rfl (hb hby d12_80) k) ?_
                show Aq T102 81 #[vr a1, vi 0, vi i2, vi xv, s4] [(.int 1)]
                refine Done.step (fun t k => XS.goto X102.here hx rfl (pc0 := 81) (pc' := 85) rfl (hb hby d12_81) (by decide) (by decide) k) ?_
                show Aq T102 85 #[vr a1, vi 0, vi i2, vi xv, s4] [(.int 1)]
                refine Done.step (fun t k => XS.istore X102.here hx rfl (hb hby d12_85) rfl (l' := #[vr a1, vi 0, vi i2, vi xv, vi 1]) (by rcases hs4 with rfl | ⟨z, rfl⟩ <;> rfl) k) ?_
                show Aq T102 87 #[vr a1, vi 0, vi i2, vi xv, vi 1] []
                refine Done.step (fun t k => XS.iload X102.here hx rfl (hb hby d12_87) rfl k) ?_
                show Aq T102 89 #[vr a1, vi 0, vi i2, vi xv, vi 1] [(.int 1)]
                refine Done.step (fun t k => XS.ifYes X102.here hx rfl (pc0 := 89) (pc' := 94) rfl (hb hby d12_89) rfl ((if0 _ _).trans (feq (by decide)).2) (by decide) (by decide) k) ?_
                show Aq T102 94 #[vr a1, vi 0, vi i2, vi xv, vi 1] []
                refine Done.step (fun t k => XS.iinc X102.here hx rfl (hb hby d12_94) rfl (l' := #[vr a1, vi 0, vi (i2 + (1 : Int32)), vi xv, vi 1]) rfl k) ?_
                show Aq T102 97 #[vr a1, vi 0, vi (i2 + (1 : Int32)), vi xv, vi 1] []
                refine Done.step (fun t k => XS.goto X102.here hx rfl (pc0 := 97) (pc' := 2) rfl (hb hby d12_97) (by decide) (by decide) k) ?_
                show Aq T102 2 #[vr a1, vi 0, vi (i2 + (1 : Int32)), vi xv, vi 1] []
                have hok : Okc xv := by
                  simp only [Int32.lt_iff_toInt_lt, ← Int32.toInt_inj, tl32_0, tl32_1, tl32_122, tl32_45, tl32_46, tl32_48, tl32_57, tl32_65, tl32_90, tl32_95, tl32_97] at c2 c3 c4 c5 c6
                  unfold Okc; omega
                rw [MO, if_pos (own_okT hok)] at hR
                exact ih T102 _ (i2 + (1 : Int32)) (vi xv) (vi 1) (ii + 1) X102 N102 Z0 e102 (Or.inr ⟨_, rfl⟩) (Or.inr ⟨_, rfl⟩) (by omega) (own_inc hi (by have := D.2.2.2.2.1; omega)) (by omega) hR
              · refine Done.step (fun t k => XS.icmpNo X102.here hx rfl (hb hby d12_61) rfl (feq c6).1 k) ?_
                show Aq T102 64 #[vr a1, vi 0, vi i2, vi xv, s4] []
                refine Done.step (fun t k => XS.iloadN X102.here hx rfl (hb hby d12_64) rfl k) ?_
                show Aq T102 65 #[vr a1, vi 0, vi i2, vi xv, s4] [(.int xv)]
                refine Done.step (fun t k => XS.bipush X102.here hx rfl (hb hby d12_65) k) ?_
                show Aq T102 67 #[vr a1, vi 0, vi i2, vi xv, s4] [(.int 95), (.int xv)]
                by_cases c7 : xv = (95 : Int32)
                · refine Done.step (fun t k => XS.icmpYes X102.here hx rfl (pc0 := 67) (pc' := 80) rfl (hb hby d12_67) rfl (teq c7).1 (by decide) (by decide) k) ?_
                  show Aq T102 80 #[vr a1, vi 0, vi i2, vi xv, s4] []
                  refine Done.step (fun t k => XS.iconst X102.here hx rfl (hb hby d12_80) k) ?_
                  show Aq T102 81 #[vr a1, vi 0, vi i2, vi xv, s4] [(.int 1)]
                  refine Done.step (fun t k => XS.goto X102.here hx rfl (pc0 := 81) (pc' := 85) rfl (hb hby d12_81) (by decide) (by decide) k) ?_
                  show Aq T102 85 #[vr a1, vi 0, vi i2, vi xv, s4] [(.int 1)]
                  refine Done.step (fun t k => XS.istore X102.here hx rfl (hb hby d12_85) rfl (l' := #[vr a1, vi 0, vi i2, vi xv, vi 1]) (by rcases hs4 with rfl | ⟨z, rfl⟩ <;> rfl) k) ?_
                  show Aq T102 87 #[vr a1, vi 0, vi i2, vi xv, vi 1] []
                  refine Done.step (fun t k => XS.iload X102.here hx rfl (hb hby d12_87) rfl k) ?_
                  show Aq T102 89 #[vr a1, vi 0, vi i2, vi xv, vi 1] [(.int 1)]
                  refine Done.step (fun t k => XS.ifYes X102.here hx rfl (pc0 := 89) (pc' := 94) rfl (hb hby d12_89) rfl ((if0 _ _).trans (feq (by decide)).2) (by decide) (by decide) k) ?_
                  show Aq T102 94 #[vr a1, vi 0, vi i2, vi xv, vi 1] []
                  refine Done.step (fun t k => XS.iinc X102.here hx rfl (hb hby d12_94) rfl (l' := #[vr a1, vi 0, vi (i2 + (1 : Int32)), vi xv, vi 1]) rfl k) ?_
                  show Aq T102 97 #[vr a1, vi 0, vi (i2 + (1 : Int32)), vi xv, vi 1] []
                  refine Done.step (fun t k => XS.goto X102.here hx rfl (pc0 := 97) (pc' := 2) rfl (hb hby d12_97) (by decide) (by decide) k) ?_
                  show Aq T102 2 #[vr a1, vi 0, vi (i2 + (1 : Int32)), vi xv, vi 1] []
                  have hok : Okc xv := by
                    simp only [Int32.lt_iff_toInt_lt, ← Int32.toInt_inj, tl32_0, tl32_1, tl32_122, tl32_45, tl32_46, tl32_48, tl32_57, tl32_65, tl32_90, tl32_95, tl32_97] at c2 c3 c4 c5 c6 c7
                    unfold Okc; omega
                  rw [MO, if_pos (own_okT hok)] at hR
                  exact ih T102 _ (i2 + (1 : Int32)) (vi xv) (vi 1) (ii + 1) X102 N102 Z0 e102 (Or.inr ⟨_, rfl⟩) (Or.inr ⟨_, rfl⟩) (by omega) (own_inc hi (by have := D.2.2.2.2.1; omega)) (by omega) hR
                · refine Done.step (fun t k => XS.icmpNo X102.here hx rfl (hb hby d12_67) rfl (feq c7).1 k) ?_
                  show Aq T102 70 #[vr a1, vi 0, vi i2, vi xv, s4] []
                  refine Done.step (fun t k => XS.iloadN X102.here hx rfl (hb hby d12_70) rfl k) ?_
                  show Aq T102 71 #[vr a1, vi 0, vi i2, vi xv, s4] [(.int 0)]
                  refine Done.step (fun t k => XS.ifYes X102.here hx rfl (pc0 := 71) (pc' := 84) rfl (hb hby d12_71) rfl ((if0 _ _).trans (teq (by decide)).1) (by decide) (by decide) k) ?_
                  show Aq T102 84 #[vr a1, vi 0, vi i2, vi xv, s4] []
                  refine Done.step (fun t k => XS.iconst X102.here hx rfl (hb hby d12_84) k) ?_
                  show Aq T102 85 #[vr a1, vi 0, vi i2, vi xv, s4] [(.int 0)]
                  refine Done.step (fun t k => XS.istore X102.here hx rfl (hb hby d12_85) rfl (l' := #[vr a1, vi 0, vi i2, vi xv, vi 0]) (by rcases hs4 with rfl | ⟨z, rfl⟩ <;> rfl) k) ?_
                  show Aq T102 87 #[vr a1, vi 0, vi i2, vi xv, vi 0] []
                  refine Done.step (fun t k => XS.iload X102.here hx rfl (hb hby d12_87) rfl k) ?_
                  show Aq T102 89 #[vr a1, vi 0, vi i2, vi xv, vi 0] [(.int 0)]
                  refine Done.step (fun t k => XS.ifNo X102.here hx rfl (hb hby d12_89) rfl ((if0 _ _).trans (teq (by decide)).2) k) ?_
                  show Aq T102 92 #[vr a1, vi 0, vi i2, vi xv, vi 0] []
                  refine Done.step (fun t k => XS.iconst X102.here hx rfl (hb hby d12_92) k) ?_
                  show Aq T102 93 #[vr a1, vi 0, vi i2, vi xv, vi 0] [(.int 0)]
                  have hok : ¬ Okc xv := by
                    simp only [Int32.lt_iff_toInt_lt, ← Int32.toInt_inj, tl32_0, tl32_1, tl32_122, tl32_45, tl32_46, tl32_48, tl32_57, tl32_65, tl32_90, tl32_95, tl32_97] at c2 c3 c4 c5 c6 c7
                    unfold Okc; omega
                  rw [MO, if_neg (own_okF hok)] at hR
                  exact Done.narr X102 hx hlk hret (by simp) (hb hby d12_93) (by decide) (by decide) ⟨by rw [← hR]; rfl, N102, e102⟩
          · refine Done.step (fun t k => XS.icmpNo X102.here hx rfl (hb hby d12_43) rfl (flt c4).1 k) ?_
            show Aq T102 46 #[vr a1, vi 0, vi i2, vi xv, s4] []
            refine Done.step (fun t k => XS.iloadN X102.here hx rfl (hb hby d12_46) rfl k) ?_
            show Aq T102 47 #[vr a1, vi 0, vi i2, vi xv, s4] [(.int xv)]
            refine Done.step (fun t k => XS.bipush X102.here hx rfl (hb hby d12_47) k) ?_
            show Aq T102 49 #[vr a1, vi 0, vi i2, vi xv, s4] [(.int 57), (.int xv)]
            by_cases c8 : (57 : Int32) < xv
            · refine Done.step (fun t k => XS.icmpNo X102.here hx rfl (hb hby d12_49) rfl (tlt c8).2.2.2 k) ?_
              show Aq T102 52 #[vr a1, vi 0, vi i2, vi xv, s4] []
              refine Done.step (fun t k => XS.iloadN X102.here hx rfl (hb hby d12_52) rfl k) ?_
              show Aq T102 53 #[vr a1, vi 0, vi i2, vi xv, s4] [(.int xv)]
              refine Done.step (fun t k => XS.bipush X102.here hx rfl (hb hby d12_53) k) ?_
              show Aq T102 55 #[vr a1, vi 0, vi i2, vi xv, s4] [(.int 46), (.int xv)]
              by_cases c9 : xv = (46 : Int32)
              · refine Done.step (fun t k => XS.icmpYes X102.here hx rfl (pc0 := 55) (pc' := 80) rfl (hb hby d12_55) rfl (teq c9).1 (by decide) (by decide) k) ?_
                show Aq T102 80 #[vr a1, vi 0, vi i2, vi xv, s4] []
                refine Done.step (fun t k => XS.iconst X102.here hx rfl (hb hby d12_80) k) ?_
                show Aq T102 81 #[vr a1, vi 0, vi i2, vi xv, s4] [(.int 1)]
                refine Done.step (fun t k => XS.goto X102.here hx rfl (pc0 := 81) (pc' := 85) rfl (hb hby d12_81) (by decide) (by decide) k) ?_
                show Aq T102 85 #[vr a1, vi 0, vi i2, vi xv, s4] [(.int 1)]
                refine Done.step (fun t k => XS.istore X102.here hx rfl (hb hby d12_85) rfl (l' := #[vr a1, vi 0, vi i2, vi xv, vi 1]) (by rcases hs4 with rfl | ⟨z, rfl⟩ <;> rfl) k) ?_
                show Aq T102 87 #[vr a1, vi 0, vi i2, vi xv, vi 1] []
                refine Done.step (fun t k => XS.iload X102.here hx rfl (hb hby d12_87) rfl k) ?_
                show Aq T102 89 #[vr a1, vi 0, vi i2, vi xv, vi 1] [(.int 1)]
                refine Done.step (fun t k => XS.ifYes X102.here hx rfl (pc0 := 89) (pc' := 94) rfl (hb hby d12_89) rfl ((if0 _ _).trans (feq (by decide)).2) (by decide) (by decide) k) ?_
                show Aq T102 94 #[vr a1, vi 0, vi i2, vi xv, vi 1] []
                refine Done.step (fun t k => XS.iinc X102.here hx rfl (hb hby d12_94) rfl (l' := #[vr a1, vi 0, vi (i2 + (1 : Int32)), vi xv, vi 1]) rfl k) ?_
                show Aq T102 97 #[vr a1, vi 0, vi (i2 + (1 : Int32)), vi xv, vi 1] []
                refine Done.step (fun t k => XS.goto X102.here hx rfl (pc0 := 97) (pc' := 2) rfl (hb hby d12_97) (by decide) (by decide) k) ?_
                show Aq T102 2 #[vr a1, vi 0, vi (i2 + (1 : Int32)), vi xv, vi 1] []
                have hok : Okc xv := by
                  simp only [Int32.lt_iff_toInt_lt, ← Int32.toInt_inj, tl32_0, tl32_1, tl32_122, tl32_45, tl32_46, tl32_48, tl32_57, tl32_65, tl32_90, tl32_95, tl32_97] at c2 c3 c4 c8 c9
                  unfold Okc; omega
                rw [MO, if_pos (own_okT hok)] at hR
                exact ih T102 _ (i2 + (1 : Int32)) (vi xv) (vi 1) (ii + 1) X102 N102 Z0 e102 (Or.inr ⟨_, rfl⟩) (Or.inr ⟨_, rfl⟩) (by omega) (own_inc hi (by have := D.2.2.2.2.1; omega)) (by omega) hR
              · refine Done.step (fun t k => XS.icmpNo X102.here hx rfl (hb hby d12_55) rfl (feq c9).1 k) ?_
                show Aq T102 58 #[vr a1, vi 0, vi i2, vi xv, s4] []
                refine Done.step (fun t k => XS.iloadN X102.here hx rfl (hb hby d12_58) rfl k) ?_
                show Aq T102 59 #[vr a1, vi 0, vi i2, vi xv, s4] [(.int xv)]
                refine Done.step (fun t k => XS.bipush X102.here hx rfl (hb hby d12_59) k) ?_
                show Aq T102 61 #[vr a1, vi 0, vi i2, vi xv, s4] [(.int 45), (.int xv)]
                by_cases c10 : xv = (45 : Int32)
                · refine Done.step (fun t k => XS.icmpYes X102.here hx rfl (pc0 := 61) (pc' := 80) rfl (hb hby d12_61) rfl (teq c10).1 (by decide) (by decide) k) ?_
                  show Aq T102 80 #[vr a1, vi 0, vi i2, vi xv, s4] []
                  refine Done.step (fun t k => XS.iconst X102.here hx rfl (hb hby d12_80) k) ?_
                  show Aq T102 81 #[vr a1, vi 0, vi i2, vi xv, s4] [(.int 1)]
                  refine Done.step (fun t k => XS.goto X102.here hx rfl (pc0 := 81) (pc' := 85) rfl (hb hby d12_81) (by decide) (by decide) k) ?_
                  show Aq T102 85 #[vr a1, vi 0, vi i2, vi xv, s4] [(.int 1)]
                  refine Done.step (fun t k => XS.istore X102.here hx rfl (hb hby d12_85) rfl (l' := #[vr a1, vi 0, vi i2, vi xv, vi 1]) (by rcases hs4 with rfl | ⟨z, rfl⟩ <;> rfl) k) ?_
                  show Aq T102 87 #[vr a1, vi 0, vi i2, vi xv, vi 1] []
                  refine Done.step (fun t k => XS.iload X102.here hx rfl (hb hby d12_87) rfl k) ?_
                  show Aq T102 89 #[vr a1, vi 0, vi i2, vi xv, vi 1] [(.int 1)]
                  refine Done.step (fun t k => XS.ifYes X102.here hx rfl (pc0 := 89) (pc' := 94) rfl (hb hby d12_89) rfl ((if0 _ _).trans (feq (by decide)).2) (by decide) (by decide) k) ?_
                  show Aq T102 94 #[vr a1, vi 0, vi i2, vi xv, vi 1] []
                  refine Done.step (fun t k => XS.iinc X102.here hx rfl (hb hby d12_94) rfl (l' := #[vr a1, vi 0, vi (i2 + (1 : Int32)), vi xv, vi 1]) rfl k) ?_
                  show Aq T102 97 #[vr a1, vi 0, vi (i2 + (1 : Int32)), vi xv, vi 1] []
                  refine Done.step (fun t k => XS.goto X102.here hx rfl (pc0 := 97) (pc' := 2) rfl (hb hby d12_97) (by decide) (by decide) k) ?_
                  show Aq T102 2 #[vr a1, vi 0, vi (i2 + (1 : Int32)), vi xv, vi 1] []
                  have hok : Okc xv := by
                    simp only [Int32.lt_iff_toInt_lt, ← Int32.toInt_inj, tl32_0, tl32_1, tl32_122, tl32_45, tl32_46, tl32_48, tl32_57, tl32_65, tl32_90, tl32_95, tl32_97] at c2 c3 c4 c8 c9 c10
                    unfold Okc; omega
                  rw [MO, if_pos (own_okT hok)] at hR
                  exact ih T102 _ (i2 + (1 : Int32)) (vi xv) (vi 1) (ii + 1) X102 N102 Z0 e102 (Or.inr ⟨_, rfl⟩) (Or.inr ⟨_, rfl⟩) (by omega) (own_inc hi (by have := D.2.2.2.2.1; omega)) (by omega) hR
                · refine Done.step (fun t k => XS.icmpNo X102.here hx rfl (hb hby d12_61) rfl (feq c10).1 k) ?_
                  show Aq T102 64 #[vr a1, vi 0, vi i2, vi xv, s4] []
                  refine Done.step (fun t k => XS.iloadN X102.here hx rfl (hb hby d12_64) rfl k) ?_
                  show Aq T102 65 #[vr a1, vi 0, vi i2, vi xv, s4] [(.int xv)]
                  refine Done.step (fun t k => XS.bipush X102.here hx rfl (hb hby d12_65) k) ?_
                  show Aq T102 67 #[vr a1, vi 0, vi i2, vi xv, s4] [(.int 95), (.int xv)]
                  by_cases c11 : xv = (95 : Int32)
                  · refine Done.step (fun t k => XS.icmpYes X102.here hx rfl (pc0 := 67) (pc' := 80) rfl (hb hby d12_67) rfl (teq c11).1 (by decide) (by decide) k) ?_
                    show Aq T102 80 #[vr a1, vi 0, vi i2, vi xv, s4] []
                    refine Done.step (fun t k => XS.iconst X102.here hx rfl (hb hby d12_80) k) ?_
                    show Aq T102 81 #[vr a1, vi 0, vi i2, vi xv, s4] [(.int 1)]
                    refine Done.step (fun t k => XS.goto X102.here hx rfl (pc0 := 81) (pc' := 85) rfl (hb hby d12_81) (by decide) (by decide) k) ?_
                    show Aq T102 85 #[vr a1, vi 0, vi i2, vi xv, s4] [(.int 1)]
                    refine Done.step (fun t k => XS.istore X102.here hx rfl (hb hby d12_85) rfl (l' := #[vr a1, vi 0, vi i2, vi xv, vi 1]) (by rcases hs4 with rfl | ⟨z, rfl⟩ <;> rfl) k) ?_
                    show Aq T102 87 #[vr a1, vi 0, vi i2, vi xv, vi 1] []
                    refine Done.step (fun t k => XS.iload X102.here hx rfl (hb hby d12_87) rfl k) ?_
                    show Aq T102 89 #[vr a1, vi 0, vi i2, vi xv, vi 1] [(.int 1)]
                    refine Done.step (fun t k => XS.ifYes X102.here hx rfl (pc0 := 89) (pc' := 94) rfl (hb hby d12_89) rfl ((if0 _ _).trans (feq (by decide)).2) (by decide) (by decide) k) ?_
                    show Aq T102 94 #[vr a1, vi 0, vi i2, vi xv, vi 1] []
                    refine Done.step (fun t k => XS.iinc X102.here hx rfl (hb hby d12_94) rfl (l' := #[vr a1, vi 0, vi (i2 + (1 : Int32)), vi xv, vi 1]) rfl k) ?_
                    show Aq T102 97 #[vr a1, vi 0, vi (i2 + (1 : Int32)), vi xv, vi 1] []
                    refine Done.step (fun t k => XS.goto X102.here hx rfl (pc0 := 97) (pc' := 2) rfl (hb hby d12_97) (by decide) (by decide) k) ?_
                    show Aq T102 2 #[vr a1, vi 0, vi (i2 + (1 : Int32)), vi xv, vi 1] []
                    have hok : Okc xv := by
                      simp only [Int32.lt_iff_toInt_lt, ← Int32.toInt_inj, tl32_0, tl32_1, tl32_122, tl32_45, tl32_46, tl32_48, tl32_57, tl32_65, tl32_90, tl32_95, tl32_97] at c2 c3 c4 c8 c9 c10 c11
                      unfold Okc; omega
                    rw [MO, if_pos (own_okT hok)] at hR
                    exact ih T102 _ (i2 + (1 : Int32)) (vi xv) (vi 1) (ii + 1) X102 N102 Z0 e102 (Or.inr ⟨_, rfl⟩) (Or.inr ⟨_, rfl⟩) (by omega) (own_inc hi (by have := D.2.2.2.2.1; omega)) (by omega) hR
                  · refine Done.step (fun t k => XS.icmpNo X102.here hx rfl (hb hby d12_67) rfl (feq c11).1 k) ?_
                    show Aq T102 70 #[vr a1, vi 0, vi i2, vi xv, s4] []
                    refine Done.step (fun t k => XS.iloadN X102.here hx rfl (hb hby d12_70) rfl k) ?_
                    show Aq T102 71 #[vr a1, vi 0, vi i2, vi xv, s4] [(.int 0)]
                    refine Done.step (fun t k => XS.ifYes X102.here hx rfl (pc0 := 71) (pc' := 84) rfl (hb hby d12_71) rfl ((if0 _ _).trans (teq (by decide)).1) (by decide) (by decide) k) ?_
                    show Aq T102 84 #[vr a1, vi 0, vi i2, vi xv, s4] []
                    refine Done.step (fun t k => XS.iconst X102.here hx rfl (hb hby d12_84) k) ?_
                    show Aq T102 85 #[vr a1, vi 0, vi i2, vi xv, s4] [(.int 0)]
                    refine Done.step (fun t k => XS.istore X102.here hx rfl (hb hby d12_85) rfl (l' := #[vr a1, vi 0, vi i2, vi xv, vi 0]) (by rcases hs4 with rfl | ⟨z, rfl⟩ <;> rfl) k) ?_
                    show Aq T102 87 #[vr a1, vi 0, vi i2, vi xv, vi 0] []
                    refine Done.step (fun t k => XS.iload X102.here hx rfl (hb hby d12_87) rfl k) ?_
                    show Aq T102 89 #[vr a1, vi 0, vi i2, vi xv, vi 0] [(.int 0)]
                    refine Done.step (fun t k => XS.ifNo X102.here hx rfl (hb hby d12_89) rfl ((if0 _ _).trans (teq (by decide)).2) k) ?_
                    show Aq T102 92 #[vr a1, vi 0, vi i2, vi xv, vi 0] []
                    refine Done.step (fun t k => XS.iconst X102.here hx rfl (hb hby d12_92) k) ?_
                    show Aq T102 93 #[vr a1, vi 0, vi i2, vi xv, vi 0] [(.int 0)]
                    have hok : ¬ Okc xv := by
                      simp only [Int32.lt_iff_toInt_lt, ← Int32.toInt_inj, tl32_0, tl32_1, tl32_122, tl32_45, tl32_46, tl32_48, tl32_57, tl32_65, tl32_90, tl32_95, tl32_97] at c2 c3 c4 c8 c9 c10 c11
                      unfold Okc; omega
                    rw [MO, if_neg (own_okF hok)] at hR
                    exact Done.narr X102 hx hlk hret (by simp) (hb hby d12_93) (by decide) (by decide) ⟨by rw [← hR]; rfl, N102, e102⟩
            · refine Done.step (fun t k => XS.icmpYes X102.here hx rfl (pc0 := 49) (pc' := 80) rfl (hb hby d12_49) rfl (flt c8).2.2.2 (by decide) (by decide) k) ?_
              show Aq T102 80 #[vr a1, vi 0, vi i2, vi xv, s4] []
              refine Done.step (fun t k => XS.iconst X102.here hx rfl (hb hby d12_80) k) ?_
              show Aq T102 81 #[vr a1, vi 0, vi i2, vi xv, s4] [(.int 1)]
              refine Done.step (fun t k => XS.goto X102.here hx rfl (pc0 := 81) (pc' := 85) rfl (hb hby d12_81) (by decide) (by decide) k) ?_
              show Aq T102 85 #[vr a1, vi 0, vi i2, vi xv, s4] [(.int 1)]
              refine Done.step (fun t k => XS.istore X102.here hx rfl (hb hby d12_85) rfl (l' := #[vr a1, vi 0, vi i2, vi xv, vi 1]) (by rcases hs4 with rfl | ⟨z, rfl⟩ <;> rfl) k) ?_
              show Aq T102 87 #[vr a1, vi 0, vi i2, vi xv, vi 1] []
              refine Done.step (fun t k => XS.iload X102.here hx rfl (hb hby d12_87) rfl k) ?_
              show Aq T102 89 #[vr a1, vi 0, vi i2, vi xv, vi 1] [(.int 1)]
              refine Done.step (fun t k => XS.ifYes X102.here hx rfl (pc0 := 89) (pc' := 94) rfl (hb hby d12_89) rfl ((if0 _ _).trans (feq (by decide)).2) (by decide) (by decide) k) ?_
              show Aq T102 94 #[vr a1, vi 0, vi i2, vi xv, vi 1] []
              refine Done.step (fun t k => XS.iinc X102.here hx rfl (hb hby d12_94) rfl (l' := #[vr a1, vi 0, vi (i2 + (1 : Int32)), vi xv, vi 1]) rfl k) ?_
              show Aq T102 97 #[vr a1, vi 0, vi (i2 + (1 : Int32)), vi xv, vi 1] []
              refine Done.step (fun t k => XS.goto X102.here hx rfl (pc0 := 97) (pc' := 2) rfl (hb hby d12_97) (by decide) (by decide) k) ?_
              show Aq T102 2 #[vr a1, vi 0, vi (i2 + (1 : Int32)), vi xv, vi 1] []
              have hok : Okc xv := by
                simp only [Int32.lt_iff_toInt_lt, ← Int32.toInt_inj, tl32_0, tl32_1, tl32_122, tl32_45, tl32_46, tl32_48, tl32_57, tl32_65, tl32_90, tl32_95, tl32_97] at c2 c3 c4 c8
                unfold Okc; omega
              rw [MO, if_pos (own_okT hok)] at hR
              exact ih T102 _ (i2 + (1 : Int32)) (vi xv) (vi 1) (ii + 1) X102 N102 Z0 e102 (Or.inr ⟨_, rfl⟩) (Or.inr ⟨_, rfl⟩) (by omega) (own_inc hi (by have := D.2.2.2.2.1; omega)) (by omega) hR
        · refine Done.step (fun t k => XS.icmpNo X102.here hx rfl (hb hby d12_31) rfl (flt c3).1 k) ?_
          show Aq T102 34 #[vr a1, vi 0, vi i2, vi xv, s4] []
          refine Done.step (fun t k => XS.iloadN X102.here hx rfl (hb hby d12_34) rfl k) ?_
          show Aq T102 35 #[vr a1, vi 0, vi i2, vi xv, s4] [(.int xv)]
          refine Done.step (fun t k => XS.bipush X102.here hx rfl (hb hby d12_35) k) ?_
          show Aq T102 37 #[vr a1, vi 0, vi i2, vi xv, s4] [(.int 122), (.int xv)]
          by_cases c12 : (122 : Int32) < xv
          · refine Done.step (fun t k => XS.icmpNo X102.here hx rfl (hb hby d12_37) rfl (tlt c12).2.2.2 k) ?_
            show Aq T102 40 #[vr a1, vi 0, vi i2, vi xv, s4] []
            refine Done.step (fun t k => XS.iloadN X102.here hx rfl (hb hby d12_40) rfl k) ?_
            show Aq T102 41 #[vr a1, vi 0, vi i2, vi xv, s4] [(.int xv)]
            refine Done.step (fun t k => XS.bipush X102.here hx rfl (hb hby d12_41) k) ?_
            show Aq T102 43 #[vr a1, vi 0, vi i2, vi xv, s4] [(.int 48), (.int xv)]
            by_cases c13 : xv < (48 : Int32)
            · refine Done.step (fun t k => XS.icmpYes X102.here hx rfl (pc0 := 43) (pc' := 52) rfl (hb hby d12_43) rfl (tlt c13).1 (by decide) (by decide) k) ?_
              show Aq T102 52 #[vr a1, vi 0, vi i2, vi xv, s4] []
              refine Done.step (fun t k => XS.iloadN X102.here hx rfl (hb hby d12_52) rfl k) ?_
              show Aq T102 53 #[vr a1, vi 0, vi i2, vi xv, s4] [(.int xv)]
              refine Done.step (fun t k => XS.bipush X102.here hx rfl (hb hby d12_53) k) ?_
              show Aq T102 55 #[vr a1, vi 0, vi i2, vi xv, s4] [(.int 46), (.int xv)]
              by_cases c14 : xv = (46 : Int32)
              · refine Done.step (fun t k => XS.icmpYes X102.here hx rfl (pc0 := 55) (pc' := 80) rfl (hb hby d12_55) rfl (teq c14).1 (by decide) (by decide) k) ?_
                show Aq T102 80 #[vr a1, vi 0, vi i2, vi xv, s4] []
                refine Done.step (fun t k => XS.iconst X102.here hx rfl (hb hby d12_80) k) ?_
                show Aq T102 81 #[vr a1, vi 0, vi i2, vi xv, s4] [(.int 1)]
                refine Done.step (fun t k => XS.goto X102.here hx rfl (pc0 := 81) (pc' := 85) rfl (hb hby d12_81) (by decide) (by decide) k) ?_
                show Aq T102 85 #[vr a1, vi 0, vi i2, vi xv, s4] [(.int 1)]
                refine Done.step (fun t k => XS.istore X102.here hx rfl (hb hby d12_85) rfl (l' := #[vr a1, vi 0, vi i2, vi xv, vi 1]) (by rcases hs4 with rfl | ⟨z, rfl⟩ <;> rfl) k) ?_
                show Aq T102 87 #[vr a1, vi 0, vi i2, vi xv, vi 1] []
                refine Done.step (fun t k => XS.iload X102.here hx rfl (hb hby d12_87) rfl k) ?_
                show Aq T102 89 #[vr a1, vi 0, vi i2, vi xv, vi 1] [(.int 1)]
                refine Done.step (fun t k => XS.ifYes X102.here hx rfl (pc0 := 89) (pc' := 94) rfl (hb hby d12_89) rfl ((if0 _ _).trans (feq (by decide)).2) (by decide) (by decide) k) ?_
                show Aq T102 94 #[vr a1, vi 0, vi i2, vi xv, vi 1] []
                refine Done.step (fun t k => XS.iinc X102.here hx rfl (hb hby d12_94) rfl (l' := #[vr a1, vi 0, vi (i2 + (1 : Int32)), vi xv, vi 1]) rfl k) ?_
                show Aq T102 97 #[vr a1, vi 0, vi (i2 + (1 : Int32)), vi xv, vi 1] []
                refine Done.step (fun t k => XS.goto X102.here hx rfl (pc0 := 97) (pc' := 2) rfl (hb hby d12_97) (by decide) (by decide) k) ?_
                show Aq T102 2 #[vr a1, vi 0, vi (i2 + (1 : Int32)), vi xv, vi 1] []
                have hok : Okc xv := by
                  simp only [Int32.lt_iff_toInt_lt, ← Int32.toInt_inj, tl32_0, tl32_1, tl32_122, tl32_45, tl32_46, tl32_48, tl32_57, tl32_65, tl32_90, tl32_95, tl32_97] at c2 c3 c12 c13 c14
                  unfold Okc; omega
                rw [MO, if_pos (own_okT hok)] at hR
                exact ih T102 _ (i2 + (1 : Int32)) (vi xv) (vi 1) (ii + 1) X102 N102 Z0 e102 (Or.inr ⟨_, rfl⟩) (Or.inr ⟨_, rfl⟩) (by omega) (own_inc hi (by have := D.2.2.2.2.1; omega)) (by omega) hR
              · refine Done.step (fun t k => XS.icmpNo X102.here hx rfl (hb hby d12_55) rfl (feq c14).1 k) ?_
                show Aq T102 58 #[vr a1, vi 0, vi i2, vi xv, s4] []
                refine Done.step (fun t k => XS.iloadN X102.here hx rfl (hb hby d12_58) rfl k) ?_
                show Aq T102 59 #[vr a1, vi 0, vi i2, vi xv, s4] [(.int xv)]
                refine Done.step (fun t k => XS.bipush X102.here hx rfl (hb hby d12_59) k) ?_
                show Aq T102 61 #[vr a1, vi 0, vi i2, vi xv, s4] [(.int 45), (.int xv)]
                by_cases c15 : xv = (45 : Int32)
                · refine Done.step (fun t k => XS.icmpYes X102.here hx rfl (pc0 := 61) (pc' := 80) rfl (hb hby d12_61) rfl (teq c15).1 (by decide) (by decide) k) ?_
                  show Aq T102 80 #[vr a1, vi 0, vi i2, vi xv, s4] []
                  refine Done.step (fun t k => XS.iconst X102.here hx rfl (hb hby d12_80) k) ?_
                  show Aq T102 81 #[vr a1, vi 0, vi i2, vi xv, s4] [(.int 1)]
                  refine Done.step (fun t k => XS.goto X102.here hx rfl (pc0 := 81) (pc' := 85) rfl (hb hby d12_81) (by decide) (by decide) k) ?_
                  show Aq T102 85 #[vr a1, vi 0, vi i2, vi xv, s4] [(.int 1)]
                  refine Done.step (fun t k => XS.istore X102.here hx rfl (hb hby d12_85) rfl (l' := #[vr a1, vi 0, vi i2, vi xv, vi 1]) (by rcases hs4 with rfl | ⟨z, rfl⟩ <;> rfl) k) ?_
                  show Aq T102 87 #[vr a1, vi 0, vi i2, vi xv, vi 1] []
                  refine Done.step (fun t k => XS.iload X102.here hx rfl (hb hby d12_87) rfl k) ?_
                  show Aq T102 89 #[vr a1, vi 0, vi i2, vi xv, vi 1] [(.int 1)]
                  refine Done.step (fun t k => XS.ifYes X102.here hx rfl (pc0 := 89) (pc' := 94) rfl (hb hby d12_89) rfl ((if0 _ _).trans (feq (by decide)).2) (by decide) (by decide) k) ?_
                  show Aq T102 94 #[vr a1, vi 0, vi i2, vi xv, vi 1] []
                  refine Done.step (fun t k => XS.iinc X102.here hx rfl (hb hby d12_94) rfl (l' := #[vr a1, vi 0, vi (i2 + (1 : Int32)), vi xv, vi 1]) rfl k) ?_
                  show Aq T102 97 #[vr a1, vi 0, vi (i2 + (1 : Int32)), vi xv, vi 1] []
                  refine Done.step (fun t k => XS.goto X102.here hx rfl (pc0 := 97) (pc' := 2) rfl (hb hby d12_97) (by decide) (by decide) k) ?_
                  show Aq T102 2 #[vr a1, vi 0, vi (i2 + (1 : Int32)), vi xv, vi 1] []
                  have hok : Okc xv := by
                    simp only [Int32.lt_iff_toInt_lt, ← Int32.toInt_inj, tl32_0, tl32_1, tl32_122, tl32_45, tl32_46, tl32_48, tl32_57, tl32_65, tl32_90, tl32_95, tl32_97] at c2 c3 c12 c13 c14 c15
                    unfold Okc; omega
                  rw [MO, if_pos (own_okT hok)] at hR
                  exact ih T102 _ (i2 + (1 : Int32)) (vi xv) (vi 1) (ii + 1) X102 N102 Z0 e102 (Or.inr ⟨_, rfl⟩) (Or.inr ⟨_, rfl⟩) (by omega) (own_inc hi (by have := D.2.2.2.2.1; omega)) (by omega) hR
                · refine Done.step (fun t k => XS.icmpNo X102.here hx rfl (hb hby d12_61) rfl (feq c15).1 k) ?_
                  show Aq T102 64 #[vr a1, vi 0, vi i2, vi xv, s4] []
                  refine Done.step (fun t k => XS.iloadN X102.here hx rfl (hb hby d12_64) rfl k) ?_
                  show Aq T102 65 #[vr a1, vi 0, vi i2, vi xv, s4] [(.int xv)]
                  refine Done.step (fun t k => XS.bipush X102.here hx rfl (hb hby d12_65) k) ?_
                  show Aq T102 67 #[vr a1, vi 0, vi i2, vi xv, s4] [(.int 95), (.int xv)]
                  by_cases c16 : xv = (95 : Int32)
                  · refine Done.step (fun t k => XS.icmpYes X102.here hx rfl (pc0 := 67) (pc' := 80) rfl (hb hby d12_67) rfl (teq c16).1 (by decide) (by decide) k) ?_
                    show Aq T102 80 #[vr a1, vi 0, vi i2, vi xv, s4] []
                    refine Done.step (fun t k => XS.iconst X102.here hx rfl (hb hby d12_80) k) ?_
                    show Aq T102 81 #[vr a1, vi 0, vi i2, vi xv, s4] [(.int 1)]
                    refine Done.step (fun t k => XS.goto X102.here hx rfl (pc0 := 81) (pc' := 85) rfl (hb hby d12_81) (by decide) (by decide) k) ?_
                    show Aq T102 85 #[vr a1, vi 0, vi i2, vi xv, s4] [(.int 1)]
                    refine Done.step (fun t k => XS.istore X102.here hx rfl (hb hby d12_85) rfl (l' := #[vr a1, vi 0, vi i2, vi xv, vi 1]) (by rcases hs4 with rfl | ⟨z, rfl⟩ <;> rfl) k) ?_
                    show Aq T102 87 #[vr a1, vi 0, vi i2, vi xv, vi 1] []
                    refine Done.step (fun t k => XS.iload X102.here hx rfl (hb hby d12_87) rfl k) ?_
                    show Aq T102 89 #[vr a1, vi 0, vi i2, vi xv, vi 1] [(.int 1)]
                    refine Done.step (fun t k => XS.ifYes X102.here hx rfl (pc0 := 89) (pc' := 94) rfl (hb hby d12_89) rfl ((if0 _ _).trans (feq (by decide)).2) (by decide) (by decide) k) ?_
                    show Aq T102 94 #[vr a1, vi 0, vi i2, vi xv, vi 1] []
                    refine Done.step (fun t k => XS.iinc X102.here hx rfl (hb hby d12_94) rfl (l' := #[vr a1, vi 0, vi (i2 + (1 : Int32)), vi xv, vi 1]) rfl k) ?_
                    show Aq T102 97 #[vr a1, vi 0, vi (i2 + (1 : Int32)), vi xv, vi 1] []
                    refine Done.step (fun t k => XS.goto X102.here hx rfl (pc0 := 97) (pc' := 2) rfl (hb hby d12_97) (by decide) (by decide) k) ?_
                    show Aq T102 2 #[vr a1, vi 0, vi (i2 + (1 : Int32)), vi xv, vi 1] []
                    have hok : Okc xv := by
                      simp only [Int32.lt_iff_toInt_lt, ← Int32.toInt_inj, tl32_0, tl32_1, tl32_122, tl32_45, tl32_46, tl32_48, tl32_57, tl32_65, tl32_90, tl32_95, tl32_97] at c2 c3 c12 c13 c14 c15 c16
                      unfold Okc; omega
                    rw [MO, if_pos (own_okT hok)] at hR
                    exact ih T102 _ (i2 + (1 : Int32)) (vi xv) (vi 1) (ii + 1) X102 N102 Z0 e102 (Or.inr ⟨_, rfl⟩) (Or.inr ⟨_, rfl⟩) (by omega) (own_inc hi (by have := D.2.2.2.2.1; omega)) (by omega) hR
                  · refine Done.step (fun t k => XS.icmpNo X102.here hx rfl (hb hby d12_67) rfl (feq c16).1 k) ?_
                    show Aq T102 70 #[vr a1, vi 0, vi i2, vi xv, s4] []
                    refine Done.step (fun t k => XS.iloadN X102.here hx rfl (hb hby d12_70) rfl k) ?_
                    show Aq T102 71 #[vr a1, vi 0, vi i2, vi xv, s4] [(.int 0)]
                    refine Done.step (fun t k => XS.ifYes X102.here hx rfl (pc0 := 71) (pc' := 84) rfl (hb hby d12_71) rfl ((if0 _ _).trans (teq (by decide)).1) (by decide) (by decide) k) ?_
                    show Aq T102 84 #[vr a1, vi 0, vi i2, vi xv, s4] []
                    refine Done.step (fun t k => XS.iconst X102.here hx rfl (hb hby d12_84) k) ?_
                    show Aq T102 85 #[vr a1, vi 0, vi i2, vi xv, s4] [(.int 0)]
                    refine Done.step (fun t k => XS.istore X102.here hx rfl (hb hby d12_85) rfl (l' := #[vr a1, vi 0, vi i2, vi xv, vi 0]) (by rcases hs4 with rfl | ⟨z, rfl⟩ <;> rfl) k) ?_
                    show Aq T102 87 #[vr a1, vi 0, vi i2, vi xv, vi 0] []
                    refine Done.step (fun t k => XS.iload X102.here hx rfl (hb hby d12_87) rfl k) ?_
                    show Aq T102 89 #[vr a1, vi 0, vi i2, vi xv, vi 0] [(.int 0)]
                    refine Done.step (fun t k => XS.ifNo X102.here hx rfl (hb hby d12_89) rfl ((if0 _ _).trans (teq (by decide)).2) k) ?_
                    show Aq T102 92 #[vr a1, vi 0, vi i2, vi xv, vi 0] []
                    refine Done.step (fun t k => XS.iconst X102.here hx rfl (hb hby d12_92) k) ?_
                    show Aq T102 93 #[vr a1, vi 0, vi i2, vi xv, vi 0] [(.int 0)]
                    have hok : ¬ Okc xv := by
                      simp only [Int32.lt_iff_toInt_lt, ← Int32.toInt_inj, tl32_0, tl32_1, tl32_122, tl32_45, tl32_46, tl32_48, tl32_57, tl32_65, tl32_90, tl32_95, tl32_97] at c2 c3 c12 c13 c14 c15 c16
                      unfold Okc; omega
                    rw [MO, if_neg (own_okF hok)] at hR
                    exact Done.narr X102 hx hlk hret (by simp) (hb hby d12_93) (by decide) (by decide) ⟨by rw [← hR]; rfl, N102, e102⟩
            · refine Done.step (fun t k => XS.icmpNo X102.here hx rfl (hb hby d12_43) rfl (flt c13).1 k) ?_
              show Aq T102 46 #[vr a1, vi 0, vi i2, vi xv, s4] []
              refine Done.step (fun t k => XS.iloadN X102.here hx rfl (hb hby d12_46) rfl k) ?_
              show Aq T102 47 #[vr a1, vi 0, vi i2, vi xv, s4] [(.int xv)]
              refine Done.step (fun t k => XS.bipush X102.here hx rfl (hb hby d12_47) k) ?_
              show Aq T102 49 #[vr a1, vi 0, vi i2, vi xv, s4] [(.int 57), (.int xv)]
              by_cases c17 : (57 : Int32) < xv
              · refine Done.step (fun t k => XS.icmpNo X102.here hx rfl (hb hby d12_49) rfl (tlt c17).2.2.2 k) ?_
                show Aq T102 52 #[vr a1, vi 0, vi i2, vi xv, s4] []
                refine Done.step (fun t k => XS.iloadN X102.here hx rfl (hb hby d12_52) rfl k) ?_
                show Aq T102 53 #[vr a1, vi 0, vi i2, vi xv, s4] [(.int xv)]
                refine Done.step (fun t k => XS.bipush X102.here hx rfl (hb hby d12_53) k) ?_
                show Aq T102 55 #[vr a1, vi 0, vi i2, vi xv, s4] [(.int 46), (.int xv)]
                by_cases c18 : xv = (46 : Int32)
                · refine Done.step (fun t k => XS.icmpYes X102.here hx rfl (pc0 := 55) (pc' := 80) rfl (hb hby d12_55) rfl (teq c18).1 (by decide) (by decide) k) ?_
                  show Aq T102 80 #[vr a1, vi 0, vi i2, vi xv, s4] []
                  refine Done.step (fun t k => XS.iconst X102.here hx rfl (hb hby d12_80) k) ?_
                  show Aq T102 81 #[vr a1, vi 0, vi i2, vi xv, s4] [(.int 1)]
                  refine Done.step (fun t k => XS.goto X102.here hx rfl (pc0 := 81) (pc' := 85) rfl (hb hby d12_81) (by decide) (by decide) k) ?_
                  show Aq T102 85 #[vr a1, vi 0, vi i2, vi xv, s4] [(.int 1)]
                  refine Done.step (fun t k => XS.istore X102.here hx rfl (hb hby d12_85) rfl (l' := #[vr a1, vi 0, vi i2, vi xv, vi 1]) (by rcases hs4 with rfl | ⟨z, rfl⟩ <;> rfl) k) ?_
                  show Aq T102 87 #[vr a1, vi 0, vi i2, vi xv, vi 1] []
                  refine Done.step (fun t k => XS.iload X102.here hx rfl (hb hby d12_87) rfl k) ?_
                  show Aq T102 89 #[vr a1, vi 0, vi i2, vi xv, vi 1] [(.int 1)]
                  refine Done.step (fun t k => XS.ifYes X102.here hx rfl (pc0 := 89) (pc' := 94) rfl (hb hby d12_89) rfl ((if0 _ _).trans (feq (by decide)).2) (by decide) (by decide) k) ?_
                  show Aq T102 94 #[vr a1, vi 0, vi i2, vi xv, vi 1] []
                  refine Done.step (fun t k => XS.iinc X102.here hx rfl (hb hby d12_94) rfl (l' := #[vr a1, vi 0, vi (i2 + (1 : Int32)), vi xv, vi 1]) rfl k) ?_
                  show Aq T102 97 #[vr a1, vi 0, vi (i2 + (1 : Int32)), vi xv, vi 1] []
                  refine Done.step (fun t k => XS.goto X102.here hx rfl (pc0 := 97) (pc' := 2) rfl (hb hby d12_97) (by decide) (by decide) k) ?_
                  show Aq T102 2 #[vr a1, vi 0, vi (i2 + (1 : Int32)), vi xv, vi 1] []
                  have hok : Okc xv := by
                    simp only [Int32.lt_iff_toInt_lt, ← Int32.toInt_inj, tl32_0, tl32_1, tl32_122, tl32_45, tl32_46, tl32_48, tl32_57, tl32_65, tl32_90, tl32_95, tl32_97] at c2 c3 c12 c13 c17 c18
                    unfold Okc; omega
                  rw [MO, if_pos (own_okT hok)] at hR
                  exact ih T102 _ (i2 + (1 : Int32)) (vi xv) (vi 1) (ii + 1) X102 N102 Z0 e102 (Or.inr ⟨_, rfl⟩) (Or.inr ⟨_, rfl⟩) (by omega) (own_inc hi (by have := D.2.2.2.2.1; omega)) (by omega) hR
                · refine Done.step (fun t k => XS.icmpNo X102.here hx rfl (hb hby d12_55) rfl (feq c18).1 k) ?_
                  show Aq T102 58 #[vr a1, vi 0, vi i2, vi xv, s4] []
                  refine Done.step (fun t k => XS.iloadN X102.here hx rfl (hb hby d12_58) rfl k) ?_
                  show Aq T102 59 #[vr a1, vi 0, vi i2, vi xv, s4] [(.int xv)]
                  refine Done.step (fun t k => XS.bipush X102.here hx rfl (hb hby d12_59) k) ?_
                  show Aq T102 61 #[vr a1, vi 0, vi i2, vi xv, s4] [(.int 45), (.int xv)]
                  by_cases c19 : xv = (45 : Int32)
                  · refine Done.step (fun t k => XS.icmpYes X102.here hx rfl (pc0 := 61) (pc' := 80) rfl (hb hby d12_61) rfl (teq c19).1 (by decide) (by decide) k) ?_
                    show Aq T102 80 #[vr a1, vi 0, vi i2, vi xv, s4] []
                    refine Done.step (fun t k => XS.iconst X102.here hx rfl (hb hby d12_80) k) ?_
                    show Aq T102 81 #[vr a1, vi 0, vi i2, vi xv, s4] [(.int 1)]
                    refine Done.step (fun t k => XS.goto X102.here hx rfl (pc0 := 81) (pc' := 85) rfl (hb hby d12_81) (by decide) (by decide) k) ?_
                    show Aq T102 85 #[vr a1, vi 0, vi i2, vi xv, s4] [(.int 1)]
                    refine Done.step (fun t k => XS.istore X102.here hx rfl (hb hby d12_85) rfl (l' := #[vr a1, vi 0, vi i2, vi xv, vi 1]) (by rcases hs4 with rfl | ⟨z, rfl⟩ <;> rfl) k) ?_
                    show Aq T102 87 #[vr a1, vi 0, vi i2, vi xv, vi 1] []
                    refine Done.step (fun t k => XS.iload X102.here hx rfl (hb hby d12_87) rfl k) ?_
                    show Aq T102 89 #[vr a1, vi 0, vi i2, vi xv, vi 1] [(.int 1)]
                    refine Done.step (fun t k => XS.ifYes X102.here hx rfl (pc0 := 89) (pc' := 94) rfl (hb hby d12_89) rfl ((if0 _ _).trans (feq (by decide)).2) (by decide) (by decide) k) ?_
                    show Aq T102 94 #[vr a1, vi 0, vi i2, vi xv, vi 1] []
                    refine Done.step (fun t k => XS.iinc X102.here hx rfl (hb hby d12_94) rfl (l' := #[vr a1, vi 0, vi (i2 + (1 : Int32)), vi xv, vi 1]) rfl k) ?_
                    show Aq T102 97 #[vr a1, vi 0, vi (i2 + (1 : Int32)), vi xv, vi 1] []
                    refine Done.step (fun t k => XS.goto X102.here hx rfl (pc0 := 97) (pc' := 2) rfl (hb hby d12_97) (by decide) (by decide) k) ?_
                    show Aq T102 2 #[vr a1, vi 0, vi (i2 + (1 : Int32)), vi xv, vi 1] []
                    have hok : Okc xv := by
                      simp only [Int32.lt_iff_toInt_lt, ← Int32.toInt_inj, tl32_0, tl32_1, tl32_122, tl32_45, tl32_46, tl32_48, tl32_57, tl32_65, tl32_90, tl32_95, tl32_97] at c2 c3 c12 c13 c17 c18 c19
                      unfold Okc; omega
                    rw [MO, if_pos (own_okT hok)] at hR
                    exact ih T102 _ (i2 + (1 : Int32)) (vi xv) (vi 1) (ii + 1) X102 N102 Z0 e102 (Or.inr ⟨_, rfl⟩) (Or.inr ⟨_, rfl⟩) (by omega) (own_inc hi (by have := D.2.2.2.2.1; omega)) (by omega) hR
                  · refine Done.step (fun t k => XS.icmpNo X102.here hx rfl (hb hby d12_61) rfl (feq c19).1 k) ?_
                    show Aq T102 64 #[vr a1, vi 0, vi i2, vi xv, s4] []
                    refine Done.step (fun t k => XS.iloadN X102.here hx rfl (hb hby d12_64) rfl k) ?_
                    show Aq T102 65 #[vr a1, vi 0, vi i2, vi xv, s4] [(.int xv)]
                    refine Done.step (fun t k => XS.bipush X102.here hx rfl (hb hby d12_65) k) ?_
                    show Aq T102 67 #[vr a1, vi 0, vi i2, vi xv, s4] [(.int 95), (.int xv)]
                    by_cases c20 : xv = (95 : Int32)
                    · refine Done.step (fun t k => XS.icmpYes X102.here hx rfl (pc0 := 67) (pc' := 80) rfl (hb hby d12_67) rfl (teq c20).1 (by decide) (by decide) k) ?_
                      show Aq T102 80 #[vr a1, vi 0, vi i2, vi xv, s4] []
                      refine Done.step (fun t k => XS.iconst X102.here hx rfl (hb hby d12_80) k) ?_
                      show Aq T102 81 #[vr a1, vi 0, vi i2, vi xv, s4] [(.int 1)]
                      refine Done.step (fun t k => XS.goto X102.here hx rfl (pc0 := 81) (pc' := 85) rfl (hb hby d12_81) (by decide) (by decide) k) ?_
                      show Aq T102 85 #[vr a1, vi 0, vi i2, vi xv, s4] [(.int 1)]
                      refine Done.step (fun t k => XS.istore X102.here hx rfl (hb hby d12_85) rfl (l' := #[vr a1, vi 0, vi i2, vi xv, vi 1]) (by rcases hs4 with rfl | ⟨z, rfl⟩ <;> rfl) k) ?_
                      show Aq T102 87 #[vr a1, vi 0, vi i2, vi xv, vi 1] []
                      refine Done.step (fun t k => XS.iload X102.here hx rfl (hb hby d12_87) rfl k) ?_
                      show Aq T102 89 #[vr a1, vi 0, vi i2, vi xv, vi 1] [(.int 1)]
                      refine Done.step (fun t k => XS.ifYes X102.here hx rfl (pc0 := 89) (pc' := 94) rfl (hb hby d12_89) rfl ((if0 _ _).trans (feq (by decide)).2) (by decide) (by decide) k) ?_
                      show Aq T102 94 #[vr a1, vi 0, vi i2, vi xv, vi 1] []
                      refine Done.step (fun t k => XS.iinc X102.here hx rfl (hb hby d12_94) rfl (l' := #[vr a1, vi 0, vi (i2 + (1 : Int32)), vi xv, vi 1]) rfl k) ?_
                      show Aq T102 97 #[vr a1, vi 0, vi (i2 + (1 : Int32)), vi xv, vi 1] []
                      refine Done.step (fun t k => XS.goto X102.here hx rfl (pc0 := 97) (pc' := 2) rfl (hb hby d12_97) (by decide) (by decide) k) ?_
                      show Aq T102 2 #[vr a1, vi 0, vi (i2 + (1 : Int32)), vi xv, vi 1] []
                      have hok : Okc xv := by
                        simp only [Int32.lt_iff_toInt_lt, ← Int32.toInt_inj, tl32_0, tl32_1, tl32_122, tl32_45, tl32_46, tl32_48, tl32_57, tl32_65, tl32_90, tl32_95, tl32_97] at c2 c3 c12 c13 c17 c18 c19 c20
                        unfold Okc; omega
                      rw [MO, if_pos (own_okT hok)] at hR
                      exact ih T102 _ (i2 + (1 : Int32)) (vi xv) (vi 1) (ii + 1) X102 N102 Z0 e102 (Or.inr ⟨_, rfl⟩) (Or.inr ⟨_, rfl⟩) (by omega) (own_inc hi (by have := D.2.2.2.2.1; omega)) (by omega) hR
                    · refine Done.step (fun t k => XS.icmpNo X102.here hx rfl (hb hby d12_67) rfl (feq c20).1 k) ?_
                      show Aq T102 70 #[vr a1, vi 0, vi i2, vi xv, s4] []
                      refine Done.step (fun t k => XS.iloadN X102.here hx rfl (hb hby d12_70) rfl k) ?_
                      show Aq T102 71 #[vr a1, vi 0, vi i2, vi xv, s4] [(.int 0)]
                      refine Done.step (fun t k => XS.ifYes X102.here hx rfl (pc0 := 71) (pc' := 84) rfl (hb hby d12_71) rfl ((if0 _ _).trans (teq (by decide)).1) (by decide) (by decide) k) ?_
                      show Aq T102 84 #[vr a1, vi 0, vi i2, vi xv, s4] []
                      refine Done.step (fun t k => XS.iconst X102.here hx rfl (hb hby d12_84) k) ?_
                      show Aq T102 85 #[vr a1, vi 0, vi i2, vi xv, s4] [(.int 0)]
                      refine Done.step (fun t k => XS.istore X102.here hx rfl (hb hby d12_85) rfl (l' := #[vr a1, vi 0, vi i2, vi xv, vi 0]) (by rcases hs4 with rfl | ⟨z, rfl⟩ <;> rfl) k) ?_
                      show Aq T102 87 #[vr a1, vi 0, vi i2, vi xv, vi 0] []
                      refine Done.step (fun t k => XS.iload X102.here hx rfl (hb hby d12_87) rfl k) ?_
                      show Aq T102 89 #[vr a1, vi 0, vi i2, vi xv, vi 0] [(.int 0)]
                      refine Done.step (fun t k => XS.ifNo X102.here hx rfl (hb hby d12_89) rfl ((if0 _ _).trans (teq (by decide)).2) k) ?_
                      show Aq T102 92 #[vr a1, vi 0, vi i2, vi xv, vi 0] []
                      refine Done.step (fun t k => XS.iconst X102.here hx rfl (hb hby d12_92) k) ?_
                      show Aq T102 93 #[vr a1, vi 0, vi i2, vi xv, vi 0] [(.int 0)]
                      have hok : ¬ Okc xv := by
                        simp only [Int32.lt_iff_toInt_lt, ← Int32.toInt_inj, tl32_0, tl32_1, tl32_122, tl32_45, tl32_46, tl32_48, tl32_57, tl32_65, tl32_90, tl32_95, tl32_97] at c2 c3 c12 c13 c17 c18 c19 c20
                        unfold Okc; omega
                      rw [MO, if_neg (own_okF hok)] at hR
                      exact Done.narr X102 hx hlk hret (by simp) (hb hby d12_93) (by decide) (by decide) ⟨by rw [← hR]; rfl, N102, e102⟩
              · refine Done.step (fun t k => XS.icmpYes X102.here hx rfl (pc0 := 49) (pc' := 80) rfl (hb hby d12_49) rfl (flt c17).2.2.2 (by decide) (by decide) k) ?_
                show Aq T102 80 #[vr a1, vi 0, vi i2, vi xv, s4] []
                refine Done.step (fun t k => XS.iconst X102.here hx rfl (hb hby d12_80) k) ?_
                show Aq T102 81 #[vr a1, vi 0, vi i2, vi xv, s4] [(.int 1)]
                refine Done.step (fun t k => XS.goto X102.here hx rfl (pc0 := 81) (pc' := 85) rfl (hb hby d12_81) (by decide) (by decide) k) ?_
                show Aq T102 85 #[vr a1, vi 0, vi i2, vi xv, s4] [(.int 1)]
                refine Done.step (fun t k => XS.istore X102.here hx rfl (hb hby d12_85) rfl (l' := #[vr a1, vi 0, vi i2, vi xv, vi 1]) (by rcases hs4 with rfl | ⟨z, rfl⟩ <;> rfl) k) ?_
                show Aq T102 87 #[vr a1, vi 0, vi i2, vi xv, vi 1] []
                refine Done.step (fun t k => XS.iload X102.here hx rfl (hb hby d12_87) rfl k) ?_
                show Aq T102 89 #[vr a1, vi 0, vi i2, vi xv, vi 1] [(.int 1)]
                refine Done.step (fun t k => XS.ifYes X102.here hx rfl (pc0 := 89) (pc' := 94) rfl (hb hby d12_89) rfl ((if0 _ _).trans (feq (by decide)).2) (by decide) (by decide) k) ?_
                show Aq T102 94 #[vr a1, vi 0, vi i2, vi xv, vi 1] []
                refine Done.step (fun t k => XS.iinc X102.here hx rfl (hb hby d12_94) rfl (l' := #[vr a1, vi 0, vi (i2 + (1 : Int32)), vi xv, vi 1]) rfl k) ?_
                show Aq T102 97 #[vr a1, vi 0, vi (i2 + (1 : Int32)), vi xv, vi 1] []
                refine Done.step (fun t k => XS.goto X102.here hx rfl (pc0 := 97) (pc' := 2) rfl (hb hby d12_97) (by decide) (by decide) k) ?_
                show Aq T102 2 #[vr a1, vi 0, vi (i2 + (1 : Int32)), vi xv, vi 1] []
                have hok : Okc xv := by
                  simp only [Int32.lt_iff_toInt_lt, ← Int32.toInt_inj, tl32_0, tl32_1, tl32_122, tl32_45, tl32_46, tl32_48, tl32_57, tl32_65, tl32_90, tl32_95, tl32_97] at c2 c3 c12 c13 c17
                  unfold Okc; omega
                rw [MO, if_pos (own_okT hok)] at hR
                exact ih T102 _ (i2 + (1 : Int32)) (vi xv) (vi 1) (ii + 1) X102 N102 Z0 e102 (Or.inr ⟨_, rfl⟩) (Or.inr ⟨_, rfl⟩) (by omega) (own_inc hi (by have := D.2.2.2.2.1; omega)) (by omega) hR
          · refine Done.step (fun t k => XS.icmpYes X102.here hx rfl (pc0 := 37) (pc' := 80) rfl (hb hby d12_37) rfl (flt c12).2.2.2 (by decide) (by decide) k) ?_
            show Aq T102 80 #[vr a1, vi 0, vi i2, vi xv, s4] []
            refine Done.step (fun t k => XS.iconst X102.here hx rfl (hb hby d12_80) k) ?_
            show Aq T102 81 #[vr a1, vi 0, vi i2, vi xv, s4] [(.int 1)]
            refine Done.step (fun t k => XS.goto X102.here hx rfl (pc0 := 81) (pc' := 85) rfl (hb hby d12_81) (by decide) (by decide) k) ?_
            show Aq T102 85 #[vr a1, vi 0, vi i2, vi xv, s4] [(.int 1)]
            refine Done.step (fun t k => XS.istore X102.here hx rfl (hb hby d12_85) rfl (l' := #[vr a1, vi 0, vi i2, vi xv, vi 1]) (by rcases hs4 with rfl | ⟨z, rfl⟩ <;> rfl) k) ?_
            show Aq T102 87 #[vr a1, vi 0, vi i2, vi xv, vi 1] []
            refine Done.step (fun t k => XS.iload X102.here hx rfl (hb hby d12_87) rfl k) ?_
            show Aq T102 89 #[vr a1, vi 0, vi i2, vi xv, vi 1] [(.int 1)]
            refine Done.step (fun t k => XS.ifYes X102.here hx rfl (pc0 := 89) (pc' := 94) rfl (hb hby d12_89) rfl ((if0 _ _).trans (feq (by decide)).2) (by decide) (by decide) k) ?_
            show Aq T102 94 #[vr a1, vi 0, vi i2, vi xv, vi 1] []
            refine Done.step (fun t k => XS.iinc X102.here hx rfl (hb hby d12_94) rfl (l' := #[vr a1, vi 0, vi (i2 + (1 : Int32)), vi xv, vi 1]) rfl k) ?_
            show Aq T102 97 #[vr a1, vi 0, vi (i2 + (1 : Int32)), vi xv, vi 1] []
            refine Done.step (fun t k => XS.goto X102.here hx rfl (pc0 := 97) (pc' := 2) rfl (hb hby d12_97) (by decide) (by decide) k) ?_
            show Aq T102 2 #[vr a1, vi 0, vi (i2 + (1 : Int32)), vi xv, vi 1] []
            have hok : Okc xv := by
              simp only [Int32.lt_iff_toInt_lt, ← Int32.toInt_inj, tl32_0, tl32_1, tl32_122, tl32_45, tl32_46, tl32_48, tl32_57, tl32_65, tl32_90, tl32_95, tl32_97] at c2 c3 c12
              unfold Okc; omega
            rw [MO, if_pos (own_okT hok)] at hR
            exact ih T102 _ (i2 + (1 : Int32)) (vi xv) (vi 1) (ii + 1) X102 N102 Z0 e102 (Or.inr ⟨_, rfl⟩) (Or.inr ⟨_, rfl⟩) (by omega) (own_inc hi (by have := D.2.2.2.2.1; omega)) (by omega) hR
      · refine Done.step (fun t k => XS.icmpNo X102.here hx rfl (hb hby d12_19) rfl (flt c2).1 k) ?_
        show Aq T102 22 #[vr a1, vi 0, vi i2, vi xv, s4] []
        refine Done.step (fun t k => XS.iloadN X102.here hx rfl (hb hby d12_22) rfl k) ?_
        show Aq T102 23 #[vr a1, vi 0, vi i2, vi xv, s4] [(.int xv)]
        refine Done.step (fun t k => XS.bipush X102.here hx rfl (hb hby d12_23) k) ?_
        show Aq T102 25 #[vr a1, vi 0, vi i2, vi xv, s4] [(.int 90), (.int xv)]
        by_cases c21 : (90 : Int32) < xv
        · refine Done.step (fun t k => XS.icmpNo X102.here hx rfl (hb hby d12_25) rfl (tlt c21).2.2.2 k) ?_
          show Aq T102 28 #[vr a1, vi 0, vi i2, vi xv, s4] []
          refine Done.step (fun t k => XS.iloadN X102.here hx rfl (hb hby d12_28) rfl k) ?_
          show Aq T102 29 #[vr a1, vi 0, vi i2, vi xv, s4] [(.int xv)]
          refine Done.step (fun t k => XS.bipush X102.here hx rfl (hb hby d12_29) k) ?_
          show Aq T102 31 #[vr a1, vi 0, vi i2, vi xv, s4] [(.int 97), (.int xv)]
          by_cases c22 : xv < (97 : Int32)
          · refine Done.step (fun t k => XS.icmpYes X102.here hx rfl (pc0 := 31) (pc' := 40) rfl (hb hby d12_31) rfl (tlt c22).1 (by decide) (by decide) k) ?_
            show Aq T102 40 #[vr a1, vi 0, vi i2, vi xv, s4] []
            refine Done.step (fun t k => XS.iloadN X102.here hx rfl (hb hby d12_40) rfl k) ?_
            show Aq T102 41 #[vr a1, vi 0, vi i2, vi xv, s4] [(.int xv)]
            refine Done.step (fun t k => XS.bipush X102.here hx rfl (hb hby d12_41) k) ?_
            show Aq T102 43 #[vr a1, vi 0, vi i2, vi xv, s4] [(.int 48), (.int xv)]
            by_cases c23 : xv < (48 : Int32)
            · refine Done.step (fun t k => XS.icmpYes X102.here hx rfl (pc0 := 43) (pc' := 52) rfl (hb hby d12_43) rfl (tlt c23).1 (by decide) (by decide) k) ?_
              show Aq T102 52 #[vr a1, vi 0, vi i2, vi xv, s4] []
              refine Done.step (fun t k => XS.iloadN X102.here hx rfl (hb hby d12_52) rfl k) ?_
              show Aq T102 53 #[vr a1, vi 0, vi i2, vi xv, s4] [(.int xv)]
              refine Done.step (fun t k => XS.bipush X102.here hx rfl (hb hby d12_53) k) ?_
              show Aq T102 55 #[vr a1, vi 0, vi i2, vi xv, s4] [(.int 46), (.int xv)]
              by_cases c24 : xv = (46 : Int32)
              · refine Done.step (fun t k => XS.icmpYes X102.here hx rfl (pc0 := 55) (pc' := 80) rfl (hb hby d12_55) rfl (teq c24).1 (by decide) (by decide) k) ?_
                show Aq T102 80 #[vr a1, vi 0, vi i2, vi xv, s4] []
                refine Done.step (fun t k => XS.iconst X102.here hx rfl (hb hby d12_80) k) ?_
                show Aq T102 81 #[vr a1, vi 0, vi i2, vi xv, s4] [(.int 1)]
                refine Done.step (fun t k => XS.goto X102.here hx rfl (pc0 := 81) (pc' := 85) rfl (hb hby d12_81) (by decide) (by decide) k) ?_
                show Aq T102 85 #[vr a1, vi 0, vi i2, vi xv, s4] [(.int 1)]
                refine Done.step (fun t k => XS.istore X102.here hx rfl (hb hby d12_85) rfl (l' := #[vr a1, vi 0, vi i2, vi xv, vi 1]) (by rcases hs4 with rfl | ⟨z, rfl⟩ <;> rfl) k) ?_
                show Aq T102 87 #[vr a1, vi 0, vi i2, vi xv, vi 1] []
                refine Done.step (fun t k => XS.iload X102.here hx rfl (hb hby d12_87) rfl k) ?_
                show Aq T102 89 #[vr a1, vi 0, vi i2, vi xv, vi 1] [(.int 1)]
                refine Done.step (fun t k => XS.ifYes X102.here hx rfl (pc0 := 89) (pc' := 94) rfl (hb hby d12_89) rfl ((if0 _ _).trans (feq (by decide)).2) (by decide) (by decide) k) ?_
                show Aq T102 94 #[vr a1, vi 0, vi i2, vi xv, vi 1] []
                refine Done.step (fun t k => XS.iinc X102.here hx rfl (hb hby d12_94) rfl (l' := #[vr a1, vi 0, vi (i2 + (1 : Int32)), vi xv, vi 1]) rfl k) ?_
                show Aq T102 97 #[vr a1, vi 0, vi (i2 + (1 : Int32)), vi xv, vi 1] []
                refine Done.step (fun t k => XS.goto X102.here hx rfl (pc0 := 97) (pc' := 2) rfl (hb hby d12_97) (by decide) (by decide) k) ?_
                show Aq T102 2 #[vr a1, vi 0, vi (i2 + (1 : Int32)), vi xv, vi 1] []
                have hok : Okc xv := by
                  simp only [Int32.lt_iff_toInt_lt, ← Int32.toInt_inj, tl32_0, tl32_1, tl32_122, tl32_45, tl32_46, tl32_48, tl32_57, tl32_65, tl32_90, tl32_95, tl32_97] at c2 c21 c22 c23 c24
                  unfold Okc; omega
                rw [MO, if_pos (own_okT hok)] at hR
                exact ih T102 _ (i2 + (1 : Int32)) (vi xv) (vi 1) (ii + 1) X102 N102 Z0 e102 (Or.inr ⟨_, rfl⟩) (Or.inr ⟨_, rfl⟩) (by omega) (own_inc hi (by have := D.2.2.2.2.1; omega)) (by omega) hR
              · refine Done.step (fun t k => XS.icmpNo X102.here hx rfl (hb hby d12_55) rfl (feq c24).1 k) ?_
                show Aq T102 58 #[vr a1, vi 0, vi i2, vi xv, s4] []
                refine Done.step (fun t k => XS.iloadN X102.here hx rfl (hb hby d12_58) rfl k) ?_
                show Aq T102 59 #[vr a1, vi 0, vi i2, vi xv, s4] [(.int xv)]
                refine Done.step (fun t k => XS.bipush X102.here hx rfl (hb hby d12_59) k) ?_
                show Aq T102 61 #[vr a1, vi 0, vi i2, vi xv, s4] [(.int 45), (.int xv)]
                by_cases c25 : xv = (45 : Int32)
                · refine Done.step (fun t k => XS.icmpYes X102.here hx rfl (pc0 := 61) (pc' := 80) rfl (hb hby d12_61) rfl (teq c25).1 (by decide) (by decide) k) ?_
                  show Aq T102 80 #[vr a1, vi 0, vi i2, vi xv, s4] []
                  refine Done.step (fun t k => XS.iconst X102.here hx rfl (hb hby d12_80) k) ?_
                  show Aq T102 81 #[vr a1, vi 0, vi i2, vi xv, s4] [(.int 1)]
                  refine Done.step (fun t k => XS.goto X102.here hx rfl (pc0 := 81) (pc' := 85) rfl (hb hby d12_81) (by decide) (by decide) k) ?_
                  show Aq T102 85 #[vr a1, vi 0, vi i2, vi xv, s4] [(.int 1)]
                  refine Done.step (fun t k => XS.istore X102.here hx rfl (hb hby d12_85) rfl (l' := #[vr a1, vi 0, vi i2, vi xv, vi 1]) (by rcases hs4 with rfl | ⟨z, rfl⟩ <;> rfl) k) ?_
                  show Aq T102 87 #[vr a1, vi 0, vi i2, vi xv, vi 1] []
                  refine Done.step (fun t k => XS.iload X102.here hx rfl (hb hby d12_87) rfl k) ?_
                  show Aq T102 89 #[vr a1, vi 0, vi i2, vi xv, vi 1] [(.int 1)]
                  refine Done.step (fun t k => XS.ifYes X102.here hx rfl (pc0 := 89) (pc' := 94) rfl (hb hby d12_89) rfl ((if0 _ _).trans (feq (by decide)).2) (by decide) (by decide) k) ?_
                  show Aq T102 94 #[vr a1, vi 0, vi i2, vi xv, vi 1] []
                  refine Done.step (fun t k => XS.iinc X102.here hx rfl (hb hby d12_94) rfl (l' := #[vr a1, vi 0, vi (i2 + (1 : Int32)), vi xv, vi 1]) rfl k) ?_
                  show Aq T102 97 #[vr a1, vi 0, vi (i2 + (1 : Int32)), vi xv, vi 1] []
                  refine Done.step (fun t k => XS.goto X102.here hx rfl (pc0 := 97) (pc' := 2) rfl (hb hby d12_97) (by decide) (by decide) k) ?_
                  show Aq T102 2 #[vr a1, vi 0, vi (i2 + (1 : Int32)), vi xv, vi 1] []
                  have hok : Okc xv := by
                    simp only [Int32.lt_iff_toInt_lt, ← Int32.toInt_inj, tl32_0, tl32_1, tl32_122, tl32_45, tl32_46, tl32_48, tl32_57, tl32_65, tl32_90, tl32_95, tl32_97] at c2 c21 c22 c23 c24 c25
                    unfold Okc; omega
                  rw [MO, if_pos (own_okT hok)] at hR
                  exact ih T102 _ (i2 + (1 : Int32)) (vi xv) (vi 1) (ii + 1) X102 N102 Z0 e102 (Or.inr ⟨_, rfl⟩) (Or.inr ⟨_, rfl⟩) (by omega) (own_inc hi (by have := D.2.2.2.2.1; omega)) (by omega) hR
                · refine Done.step (fun t k => XS.icmpNo X102.here hx rfl (hb hby d12_61) rfl (feq c25).1 k) ?_
                  show Aq T102 64 #[vr a1, vi 0, vi i2, vi xv, s4] []
                  refine Done.step (fun t k => XS.iloadN X102.here hx rfl (hb hby d12_64) rfl k) ?_
                  show Aq T102 65 #[vr a1, vi 0, vi i2, vi xv, s4] [(.int xv)]
                  refine Done.step (fun t k => XS.bipush X102.here hx rfl (hb hby d12_65) k) ?_
                  show Aq T102 67 #[vr a1, vi 0, vi i2, vi xv, s4] [(.int 95), (.int xv)]
                  by_cases c26 : xv = (95 : Int32)
                  · refine Done.step (fun t k => XS.icmpYes X102.here hx rfl (pc0 := 67) (pc' := 80) rfl (hb hby d12_67) rfl (teq c26).1 (by decide) (by decide) k) ?_
                    show Aq T102 80 #[vr a1, vi 0, vi i2, vi xv, s4] []
                    refine Done.step (fun t k => XS.iconst X102.here hx rfl (hb hby d12_80) k) ?_
                    show Aq T102 81 #[vr a1, vi 0, vi i2, vi xv, s4] [(.int 1)]
                    refine Done.step (fun t k => XS.goto X102.here hx rfl (pc0 := 81) (pc' := 85) rfl (hb hby d12_81) (by decide) (by decide) k) ?_
                    show Aq T102 85 #[vr a1, vi 0, vi i2, vi xv, s4] [(.int 1)]
                    refine Done.step (fun t k => XS.istore X102.here hx rfl (hb hby d12_85) rfl (l' := #[vr a1, vi 0, vi i2, vi xv, vi 1]) (by rcases hs4 with rfl | ⟨z, rfl⟩ <;> rfl) k) ?_
                    show Aq T102 87 #[vr a1, vi 0, vi i2, vi xv, vi 1] []
                    refine Done.step (fun t k => XS.iload X102.here hx rfl (hb hby d12_87) rfl k) ?_
                    show Aq T102 89 #[vr a1, vi 0, vi i2, vi xv, vi 1] [(.int 1)]
                    refine Done.step (fun t k => XS.ifYes X102.here hx rfl (pc0 := 89) (pc' := 94) rfl (hb hby d12_89) rfl ((if0 _ _).trans (feq (by decide)).2) (by decide) (by decide) k) ?_
                    show Aq T102 94 #[vr a1, vi 0, vi i2, vi xv, vi 1] []
                    refine Done.step (fun t k => XS.iinc X102.here hx rfl (hb hby d12_94) rfl (l' := #[vr a1, vi 0, vi (i2 + (1 : Int32)), vi xv, vi 1]) rfl k) ?_
                    show Aq T102 97 #[vr a1, vi 0, vi (i2 + (1 : Int32)), vi xv, vi 1] []
                    refine Done.step (fun t k => XS.goto X102.here hx rfl (pc0 := 97) (pc' := 2) rfl (hb hby d12_97) (by decide) (by decide) k) ?_
                    show Aq T102 2 #[vr a1, vi 0, vi (i2 + (1 : Int32)), vi xv, vi 1] []
                    have hok : Okc xv := by
                      simp only [Int32.lt_iff_toInt_lt, ← Int32.toInt_inj, tl32_0, tl32_1, tl32_122, tl32_45, tl32_46, tl32_48, tl32_57, tl32_65, tl32_90, tl32_95, tl32_97] at c2 c21 c22 c23 c24 c25 c26
                      unfold Okc; omega
                    rw [MO, if_pos (own_okT hok)] at hR
                    exact ih T102 _ (i2 + (1 : Int32)) (vi xv) (vi 1) (ii + 1) X102 N102 Z0 e102 (Or.inr ⟨_, rfl⟩) (Or.inr ⟨_, rfl⟩) (by omega) (own_inc hi (by have := D.2.2.2.2.1; omega)) (by omega) hR
                  · refine Done.step (fun t k => XS.icmpNo X102.here hx rfl (hb hby d12_67) rfl (feq c26).1 k) ?_
                    show Aq T102 70 #[vr a1, vi 0, vi i2, vi xv, s4] []
                    refine Done.step (fun t k => XS.iloadN X102.here hx rfl (hb hby d12_70) rfl k) ?_
                    show Aq T102 71 #[vr a1, vi 0, vi i2, vi xv, s4] [(.int 0)]
                    refine Done.step (fun t k => XS.ifYes X102.here hx rfl (pc0 := 71) (pc' := 84) rfl (hb hby d12_71) rfl ((if0 _ _).trans (teq (by decide)).1) (by decide) (by decide) k) ?_
                    show Aq T102 84 #[vr a1, vi 0, vi i2, vi xv, s4] []
                    refine Done.step (fun t k => XS.iconst X102.here hx rfl (hb hby d12_84) k) ?_
                    show Aq T102 85 #[vr a1, vi 0, vi i2, vi xv, s4] [(.int 0)]
                    refine Done.step (fun t k => XS.istore X102.here hx rfl (hb hby d12_85) rfl (l' := #[vr a1, vi 0, vi i2, vi xv, vi 0]) (by rcases hs4 with rfl | ⟨z, rfl⟩ <;> rfl) k) ?_
                    show Aq T102 87 #[vr a1, vi 0, vi i2, vi xv, vi 0] []
                    refine Done.step (fun t k => XS.iload X102.here hx rfl (hb hby d12_87) rfl k) ?_
                    show Aq T102 89 #[vr a1, vi 0, vi i2, vi xv, vi 0] [(.int 0)]
                    refine Done.step (fun t k => XS.ifNo X102.here hx rfl (hb hby d12_89) rfl ((if0 _ _).trans (teq (by decide)).2) k) ?_
                    show Aq T102 92 #[vr a1, vi 0, vi i2, vi xv, vi 0] []
                    refine Done.step (fun t k => XS.iconst X102.here hx rfl (hb hby d12_92) k) ?_
                    show Aq T102 93 #[vr a1, vi 0, vi i2, vi xv, vi 0] [(.int 0)]
                    have hok : ¬ Okc xv := by
                      simp only [Int32.lt_iff_toInt_lt, ← Int32.toInt_inj, tl32_0, tl32_1, tl32_122, tl32_45, tl32_46, tl32_48, tl32_57, tl32_65, tl32_90, tl32_95, tl32_97] at c2 c21 c22 c23 c24 c25 c26
                      unfold Okc; omega
                    rw [MO, if_neg (own_okF hok)] at hR
                    exact Done.narr X102 hx hlk hret (by simp) (hb hby d12_93) (by decide) (by decide) ⟨by rw [← hR]; rfl, N102, e102⟩
            · refine Done.step (fun t k => XS.icmpNo X102.here hx rfl (hb hby d12_43) rfl (flt c23).1 k) ?_
              show Aq T102 46 #[vr a1, vi 0, vi i2, vi xv, s4] []
              refine Done.step (fun t k => XS.iloadN X102.here hx rfl (hb hby d12_46) rfl k) ?_
              show Aq T102 47 #[vr a1, vi 0, vi i2, vi xv, s4] [(.int xv)]
              refine Done.step (fun t k => XS.bipush X102.here hx rfl (hb hby d12_47) k) ?_
              show Aq T102 49 #[vr a1, vi 0, vi i2, vi xv, s4] [(.int 57), (.int xv)]
              by_cases c27 : (57 : Int32) < xv
              · refine Done.step (fun t k => XS.icmpNo X102.here hx rfl (hb hby d12_49) rfl (tlt c27).2.2.2 k) ?_
                show Aq T102 52 #[vr a1, vi 0, vi i2, vi xv, s4] []
                refine Done.step (fun t k => XS.iloadN X102.here hx rfl (hb hby d12_52) rfl k) ?_
                show Aq T102 53 #[vr a1, vi 0, vi i2, vi xv, s4] [(.int xv)]
                refine Done.step (fun t k => XS.bipush X102.here hx rfl (hb hby d12_53) k) ?_
                show Aq T102 55 #[vr a1, vi 0, vi i2, vi xv, s4] [(.int 46), (.int xv)]
                by_cases c28 : xv = (46 : Int32)
                · refine Done.step (fun t k => XS.icmpYes X102.here hx rfl (pc0 := 55) (pc' := 80) rfl (hb hby d12_55) rfl (teq c28).1 (by decide) (by decide) k) ?_
                  show Aq T102 80 #[vr a1, vi 0, vi i2, vi xv, s4] []
                  refine Done.step (fun t k => XS.iconst X102.here hx rfl (hb hby d12_80) k) ?_
                  show Aq T102 81 #[vr a1, vi 0, vi i2, vi xv, s4] [(.int 1)]
                  refine Done.step (fun t k => XS.goto X102.here hx rfl (pc0 := 81) (pc' := 85) rfl (hb hby d12_81) (by decide) (by decide) k) ?_
                  show Aq T102 85 #[vr a1, vi 0, vi i2, vi xv, s4] [(.int 1)]
                  refine Done.step (fun t k => XS.istore X102.here hx rfl (hb hby d12_85) rfl (l' := #[vr a1, vi 0, vi i2, vi xv, vi 1]) (by rcases hs4 with rfl | ⟨z, rfl⟩ <;> rfl) k) ?_
                  show Aq T102 87 #[vr a1, vi 0, vi i2, vi xv, vi 1] []
                  refine Done.step (fun t k => XS.iload X102.here hx rfl (hb hby d12_87) rfl k) ?_
                  show Aq T102 89 #[vr a1, vi 0, vi i2, vi xv, vi 1] [(.int 1)]
                  refine Done.step (fun t k => XS.ifYes X102.here hx rfl (pc0 := 89) (pc' := 94) rfl (hb hby d12_89) rfl ((if0 _ _).trans (feq (by decide)).2) (by decide) (by decide) k) ?_
                  show Aq T102 94 #[vr a1, vi 0, vi i2, vi xv, vi 1] []
                  refine Done.step (fun t k => XS.iinc X102.here hx rfl (hb hby d12_94) rfl (l' := #[vr a1, vi 0, vi (i2 + (1 : Int32)), vi xv, vi 1]) rfl k) ?_
                  show Aq T102 97 #[vr a1, vi 0, vi (i2 + (1 : Int32)), vi xv, vi 1] []
                  refine Done.step (fun t k => XS.goto X102.here hx rfl (pc0 := 97) (pc' := 2) rfl (hb hby d12_97) (by decide) (by decide) k) ?_
                  show Aq T102 2 #[vr a1, vi 0, vi (i2 + (1 : Int32)), vi xv, vi 1] []
                  have hok : Okc xv := by
                    simp only [Int32.lt_iff_toInt_lt, ← Int32.toInt_inj, tl32_0, tl32_1, tl32_122, tl32_45, tl32_46, tl32_48, tl32_57, tl32_65, tl32_90, tl32_95, tl32_97] at c2 c21 c22 c23 c27 c28
                    unfold Okc; omega
                  rw [MO, if_pos (own_okT hok)] at hR
                  exact ih T102 _ (i2 + (1 : Int32)) (vi xv) (vi 1) (ii + 1) X102 N102 Z0 e102 (Or.inr ⟨_, rfl⟩) (Or.inr ⟨_, rfl⟩) (by omega) (own_inc hi (by have := D.2.2.2.2.1; omega)) (by omega) hR
                · refine Done.step (fun t k => XS.icmpNo X102.here hx rfl (hb hby d12_55) rfl (feq c28).1 k) ?_
                  show Aq T102 58 #[vr a1, vi 0, vi i2, vi xv, s4] []
                  refine Done.step (fun t k => XS.iloadN X102.here hx rfl (hb hby d12_58) rfl k) ?_
                  show Aq T102 59 #[vr a1, vi 0, vi i2, vi xv, s4] [(.int xv)]
                  refine Done.step (fun t k => XS.bipush X102.here hx rfl (hb hby d12_59) k) ?_
                  show Aq T102 61 #[vr a1, vi 0, vi i2, vi xv, s4] [(.int 45), (.int xv)]
                  by_cases c29 : xv = (45 : Int32)
                  · refine Done.step (fun t k => XS.icmpYes X102.here hx rfl (pc0 := 61) (pc' := 80) rfl (hb hby d12_61) rfl (teq c29).1 (by decide) (by decide) k) ?_
                    show Aq T102 80 #[vr a1, vi 0, vi i2, vi xv, s4] []
                    refine Done.step (fun t k => XS.iconst X102.here hx rfl (hb hby d12_80) k) ?_
                    show Aq T102 81 #[vr a1, vi 0, vi i2, vi xv, s4] [(.int 1)]
                    refine Done.step (fun t k => XS.goto X102.here hx rfl (pc0 := 81) (pc' := 85) rfl (hb hby d12_81) (by decide) (by decide) k) ?_
                    show Aq T102 85 #[vr a1, vi 0, vi i2, vi xv, s4] [(.int 1)]
                    refine Done.step (fun t k => XS.istore X102.here hx rfl (hb hby d12_85) rfl (l' := #[vr a1, vi 0, vi i2, vi xv, vi 1]) (by rcases hs4 with rfl | ⟨z, rfl⟩ <;> rfl) k) ?_
                    show Aq T102 87 #[vr a1, vi 0, vi i2, vi xv, vi 1] []
                    refine Done.step (fun t k => XS.iload X102.here hx rfl (hb hby d12_87) rfl k) ?_
                    show Aq T102 89 #[vr a1, vi 0, vi i2, vi xv, vi 1] [(.int 1)]
                    refine Done.step (fun t k => XS.ifYes X102.here hx rfl (pc0 := 89) (pc' := 94) rfl (hb hby d12_89) rfl ((if0 _ _).trans (feq (by decide)).2) (by decide) (by decide) k) ?_
                    show Aq T102 94 #[vr a1, vi 0, vi i2, vi xv, vi 1] []
                    refine Done.step (fun t k => XS.iinc X102.here hx rfl (hb hby d12_94) rfl (l' := #[vr a1, vi 0, vi (i2 + (1 : Int32)), vi xv, vi 1]) rfl k) ?_
                    show Aq T102 97 #[vr a1, vi 0, vi (i2 + (1 : Int32)), vi xv, vi 1] []
                    refine Done.step (fun t k => XS.goto X102.here hx rfl (pc0 := 97) (pc' := 2) rfl (hb hby d12_97) (by decide) (by decide) k) ?_
                    show Aq T102 2 #[vr a1, vi 0, vi (i2 + (1 : Int32)), vi xv, vi 1] []
                    have hok : Okc xv := by
                      simp only [Int32.lt_iff_toInt_lt, ← Int32.toInt_inj, tl32_0, tl32_1, tl32_122, tl32_45, tl32_46, tl32_48, tl32_57, tl32_65, tl32_90, tl32_95, tl32_97] at c2 c21 c22 c23 c27 c28 c29
                      unfold Okc; omega
                    rw [MO, if_pos (own_okT hok)] at hR
                    exact ih T102 _ (i2 + (1 : Int32)) (vi xv) (vi 1) (ii + 1) X102 N102 Z0 e102 (Or.inr ⟨_, rfl⟩) (Or.inr ⟨_, rfl⟩) (by omega) (own_inc hi (by have := D.2.2.2.2.1; omega)) (by omega) hR
                  · refine Done.step (fun t k => XS.icmpNo X102.here hx rfl (hb hby d12_61) rfl (feq c29).1 k) ?_
                    show Aq T102 64 #[vr a1, vi 0, vi i2, vi xv, s4] []
                    refine Done.step (fun t k => XS.iloadN X102.here hx rfl (hb hby d12_64) rfl k) ?_
                    show Aq T102 65 #[vr a1, vi 0, vi i2, vi xv, s4] [(.int xv)]
                    refine Done.step (fun t k => XS.bipush X102.here hx rfl (hb hby d12_65) k) ?_
                    show Aq T102 67 #[vr a1, vi 0, vi i2, vi xv, s4] [(.int 95), (.int xv)]
                    by_cases c30 : xv = (95 : Int32)
                    · refine Done.step (fun t k => XS.icmpYes X102.here hx rfl (pc0 := 67) (pc' := 80) rfl (hb hby d12_67) rfl (teq c30).1 (by decide) (by decide) k) ?_
                      show Aq T102 80 #[vr a1, vi 0, vi i2, vi xv, s4] []
                      refine Done.step (fun t k => XS.iconst X102.here hx rfl (hb hby d12_80) k) ?_
                      show Aq T102 81 #[vr a1, vi 0, vi i2, vi xv, s4] [(.int 1)]
                      refine Done.step (fun t k => XS.goto X102.here hx rfl (pc0 := 81) (pc' := 85) rfl (hb hby d12_81) (by decide) (by decide) k) ?_
                      show Aq T102 85 #[vr a1, vi 0, vi i2, vi xv, s4] [(.int 1)]
                      refine Done.step (fun t k => XS.istore X102.here hx rfl (hb hby d12_85) rfl (l' := #[vr a1, vi 0, vi i2, vi xv, vi 1]) (by rcases hs4 with rfl | ⟨z, rfl⟩ <;> rfl) k) ?_
                      show Aq T102 87 #[vr a1, vi 0, vi i2, vi xv, vi 1] []
                      refine Done.step (fun t k => XS.iload X102.here hx rfl (hb hby d12_87) rfl k) ?_
                      show Aq T102 89 #[vr a1, vi 0, vi i2, vi xv, vi 1] [(.int 1)]
                      refine Done.step (fun t k => XS.ifYes X102.here hx rfl (pc0 := 89) (pc' := 94) rfl (hb hby d12_89) rfl ((if0 _ _).trans (feq (by decide)).2) (by decide) (by decide) k) ?_
                      show Aq T102 94 #[vr a1, vi 0, vi i2, vi xv, vi 1] []
                      refine Done.step (fun t k => XS.iinc X102.here hx rfl (hb hby d12_94) rfl (l' := #[vr a1, vi 0, vi (i2 + (1 : Int32)), vi xv, vi 1]) rfl k) ?_
                      show Aq T102 97 #[vr a1, vi 0, vi (i2 + (1 : Int32)), vi xv, vi 1] []
                      refine Done.step (fun t k => XS.goto X102.here hx rfl (pc0 := 97) (pc' := 2) rfl (hb hby d12_97) (by decide) (by decide) k) ?_
                      show Aq T102 2 #[vr a1, vi 0, vi (i2 + (1 : Int32)), vi xv, vi 1] []
                      have hok : Okc xv := by
                        simp only [Int32.lt_iff_toInt_lt, ← Int32.toInt_inj, tl32_0, tl32_1, tl32_122, tl32_45, tl32_46, tl32_48, tl32_57, tl32_65, tl32_90, tl32_95, tl32_97] at c2 c21 c22 c23 c27 c28 c29 c30
                        unfold Okc; omega
                      rw [MO, if_pos (own_okT hok)] at hR
                      exact ih T102 _ (i2 + (1 : Int32)) (vi xv) (vi 1) (ii + 1) X102 N102 Z0 e102 (Or.inr ⟨_, rfl⟩) (Or.inr ⟨_, rfl⟩) (by omega) (own_inc hi (by have := D.2.2.2.2.1; omega)) (by omega) hR
                    · refine Done.step (fun t k => XS.icmpNo X102.here hx rfl (hb hby d12_67) rfl (feq c30).1 k) ?_
                      show Aq T102 70 #[vr a1, vi 0, vi i2, vi xv, s4] []
                      refine Done.step (fun t k => XS.iloadN X102.here hx rfl (hb hby d12_70) rfl k) ?_
                      show Aq T102 71 #[vr a1, vi 0, vi i2, vi xv, s4] [(.int 0)]
                      refine Done.step (fun t k => XS.ifYes X102.here hx rfl (pc0 := 71) (pc' := 84) rfl (hb hby d12_71) rfl ((if0 _ _).trans (teq (by decide)).1) (by decide) (by decide) k) ?_
                      show Aq T102 84 #[vr a1, vi 0, vi i2, vi xv, s4] []
                      refine Done.step (fun t k => XS.iconst X102.here hx rfl (hb hby d12_84) k) ?_
                      show Aq T102 85 #[vr a1, vi 0, vi i2, vi xv, s4] [(.int 0)]
                      refine Done.step (fun t k => XS.istore X102.here hx rfl (hb hby d12_85) rfl (l' := #[vr a1, vi 0, vi i2, vi xv, vi 0]) (by rcases hs4 with rfl | ⟨z, rfl⟩ <;> rfl) k) ?_
                      show Aq T102 87 #[vr a1, vi 0, vi i2, vi xv, vi 0] []
                      refine Done.step (fun t k => XS.iload X102.here hx rfl (hb hby d12_87) rfl k) ?_
                      show Aq T102 89 #[vr a1, vi 0, vi i2, vi xv, vi 0] [(.int 0)]
                      refine Done.step (fun t k => XS.ifNo X102.here hx rfl (hb hby d12_89) rfl ((if0 _ _).trans (teq (by decide)).2) k) ?_
                      show Aq T102 92 #[vr a1, vi 0, vi i2, vi xv, vi 0] []
                      refine Done.step (fun t k => XS.iconst X102.here hx rfl (hb hby d12_92) k) ?_
                      show Aq T102 93 #[vr a1, vi 0, vi i2, vi xv, vi 0] [(.int 0)]
                      have hok : ¬ Okc xv := by
                        simp only [Int32.lt_iff_toInt_lt, ← Int32.toInt_inj, tl32_0, tl32_1, tl32_122, tl32_45, tl32_46, tl32_48, tl32_57, tl32_65, tl32_90, tl32_95, tl32_97] at c2 c21 c22 c23 c27 c28 c29 c30
                        unfold Okc; omega
                      rw [MO, if_neg (own_okF hok)] at hR
                      exact Done.narr X102 hx hlk hret (by simp) (hb hby d12_93) (by decide) (by decide) ⟨by rw [← hR]; rfl, N102, e102⟩
              · refine Done.step (fun t k => XS.icmpYes X102.here hx rfl (pc0 := 49) (pc' := 80) rfl (hb hby d12_49) rfl (flt c27).2.2.2 (by decide) (by decide) k) ?_
                show Aq T102 80 #[vr a1, vi 0, vi i2, vi xv, s4] []
                refine Done.step (fun t k => XS.iconst X102.here hx rfl (hb hby d12_80) k) ?_
                show Aq T102 81 #[vr a1, vi 0, vi i2, vi xv, s4] [(.int 1)]
                refine Done.step (fun t k => XS.goto X102.here hx rfl (pc0 := 81) (pc' := 85) rfl (hb hby d12_81) (by decide) (by decide) k) ?_
                show Aq T102 85 #[vr a1, vi 0, vi i2, vi xv, s4] [(.int 1)]
                refine Done.step (fun t k => XS.istore X102.here hx rfl (hb hby d12_85) rfl (l' := #[vr a1, vi 0, vi i2, vi xv, vi 1]) (by rcases hs4 with rfl | ⟨z, rfl⟩ <;> rfl) k) ?_
                show Aq T102 87 #[vr a1, vi 0, vi i2, vi xv, vi 1] []
                refine Done.step (fun t k => XS.iload X102.here hx rfl (hb hby d12_87) rfl k) ?_
                show Aq T102 89 #[vr a1, vi 0, vi i2, vi xv, vi 1] [(.int 1)]
                refine Done.step (fun t k => XS.ifYes X102.here hx rfl (pc0 := 89) (pc' := 94) rfl (hb hby d12_89) rfl ((if0 _ _).trans (feq (by decide)).2) (by decide) (by decide) k) ?_
                show Aq T102 94 #[vr a1, vi 0, vi i2, vi xv, vi 1] []
                refine Done.step (fun t k => XS.iinc X102.here hx rfl (hb hby d12_94) rfl (l' := #[vr a1, vi 0, vi (i2 + (1 : Int32)), vi xv, vi 1]) rfl k) ?_
                show Aq T102 97 #[vr a1, vi 0, vi (i2 + (1 : Int32)), vi xv, vi 1] []
                refine Done.step (fun t k => XS.goto X102.here hx rfl (pc0 := 97) (pc' := 2) rfl (hb hby d12_97) (by decide) (by decide) k) ?_
                show Aq T102 2 #[vr a1, vi 0, vi (i2 + (1 : Int32)), vi xv, vi 1] []
                have hok : Okc xv := by
                  simp only [Int32.lt_iff_toInt_lt, ← Int32.toInt_inj, tl32_0, tl32_1, tl32_122, tl32_45, tl32_46, tl32_48, tl32_57, tl32_65, tl32_90, tl32_95, tl32_97] at c2 c21 c22 c23 c27
                  unfold Okc; omega
                rw [MO, if_pos (own_okT hok)] at hR
                exact ih T102 _ (i2 + (1 : Int32)) (vi xv) (vi 1) (ii + 1) X102 N102 Z0 e102 (Or.inr ⟨_, rfl⟩) (Or.inr ⟨_, rfl⟩) (by omega) (own_inc hi (by have := D.2.2.2.2.1; omega)) (by omega) hR
          · refine Done.step (fun t k => XS.icmpNo X102.here hx rfl (hb hby d12_31) rfl (flt c22).1 k) ?_
            show Aq T102 34 #[vr a1, vi 0, vi i2, vi xv, s4] []
            refine Done.step (fun t k => XS.iloadN X102.here hx rfl (hb hby d12_34) rfl k) ?_
            show Aq T102 35 #[vr a1, vi 0, vi i2, vi xv, s4] [(.int xv)]
            refine Done.step (fun t k => XS.bipush X102.here hx rfl (hb hby d12_35) k) ?_
            show Aq T102 37 #[vr a1, vi 0, vi i2, vi xv, s4] [(.int 122), (.int xv)]
            by_cases c31 : (122 : Int32) < xv
            · refine Done.step (fun t k => XS.icmpNo X102.here hx rfl (hb hby d12_37) rfl (tlt c31).2.2.2 k) ?_
              show Aq T102 40 #[vr a1, vi 0, vi i2, vi xv, s4] []
              refine Done.step (fun t k => XS.iloadN X102.here hx rfl (hb hby d12_40) rfl k) ?_
              show Aq T102 41 #[vr a1, vi 0, vi i2, vi xv, s4] [(.int xv)]
              refine Done.step (fun t k => XS.bipush X102.here hx rfl (hb hby d12_41) k) ?_
              show Aq T102 43 #[vr a1, vi 0, vi i2, vi xv, s4] [(.int 48), (.int xv)]
              by_cases c32 : xv < (48 : Int32)
              · refine Done.step (fun t k => XS.icmpYes X102.here hx rfl (pc0 := 43) (pc' := 52) rfl (hb hby d12_43) rfl (tlt c32).1 (by decide) (by decide) k) ?_
                show Aq T102 52 #[vr a1, vi 0, vi i2, vi xv, s4] []
                refine Done.step (fun t k => XS.iloadN X102.here hx rfl (hb hby d12_52) rfl k) ?_
                show Aq T102 53 #[vr a1, vi 0, vi i2, vi xv, s4] [(.int xv)]
                refine Done.step (fun t k => XS.bipush X102.here hx rfl (hb hby d12_53) k) ?_
                show Aq T102 55 #[vr a1, vi 0, vi i2, vi xv, s4] [(.int 46), (.int xv)]
                by_cases c33 : xv = (46 : Int32)
                · refine Done.step (fun t k => XS.icmpYes X102.here hx rfl (pc0 := 55) (pc' := 80) rfl (hb hby d12_55) rfl (teq c33).1 (by decide) (by decide) k) ?_
                  show Aq T102 80 #[vr a1, vi 0, vi i2, vi xv, s4] []
                  refine Done.step (fun t k => XS.iconst X102.here hx rfl (hb hby d12_80) k) ?_
                  show Aq T102 81 #[vr a1, vi 0, vi i2, vi xv, s4] [(.int 1)]
                  refine Done.step (fun t k => XS.goto X102.here hx rfl (pc0 := 81) (pc' := 85) rfl (hb hby d12_81) (by decide) (by decide) k) ?_
                  show Aq T102 85 #[vr a1, vi 0, vi i2, vi xv, s4] [(.int 1)]
                  refine Done.step (fun t k => XS.istore X102.here hx rfl (hb hby d12_85) rfl (l' := #[vr a1, vi 0, vi i2, vi xv, vi 1]) (by rcases hs4 with rfl | ⟨z, rfl⟩ <;> rfl) k) ?_
                  show Aq T102 87 #[vr a1, vi 0, vi i2, vi xv, vi 1] []
                  refine Done.step (fun t k => XS.iload X102.here hx rfl (hb hby d12_87) rfl k) ?_
                  show Aq T102 89 #[vr a1, vi 0, vi i2, vi xv, vi 1] [(.int 1)]
                  refine Done.step (fun t k => XS.ifYes X102.here hx rfl (pc0 := 89) (pc' := 94) rfl (hb hby d12_89) rfl ((if0 _ _).trans (feq (by decide)).2) (by decide) (by decide) k) ?_
                  show Aq T102 94 #[vr a1, vi 0, vi i2, vi xv, vi 1] []
                  refine Done.step (fun t k => XS.iinc X102.here hx rfl (hb hby d12_94) rfl (l' := #[vr a1, vi 0, vi (i2 + (1 : Int32)), vi xv, vi 1]) rfl k) ?_
                  show Aq T102 97 #[vr a1, vi 0, vi (i2 + (1 : Int32)), vi xv, vi 1] []
                  refine Done.step (fun t k => XS.goto X102.here hx rfl (pc0 := 97) (pc' := 2) rfl (hb hby d12_97) (by decide) (by decide) k) ?_
                  show Aq T102 2 #[vr a1, vi 0, vi (i2 + (1 : Int32)), vi xv, vi 1] []
                  have hok : Okc xv := by
                    simp only [Int32.lt_iff_toInt_lt, ← Int32.toInt_inj, tl32_0, tl32_1, tl32_122, tl32_45, tl32_46, tl32_48, tl32_57, tl32_65, tl32_90, tl32_95, tl32_97] at c2 c21 c22 c31 c32 c33
                    unfold Okc; omega
                  rw [MO, if_pos (own_okT hok)] at hR
                  exact ih T102 _ (i2 + (1 : Int32)) (vi xv) (vi 1) (ii + 1) X102 N102 Z0 e102 (Or.inr ⟨_, rfl⟩) (Or.inr ⟨_, rfl⟩) (by omega) (own_inc hi (by have := D.2.2.2.2.1; omega)) (by omega) hR
                · refine Done.step (fun t k => XS.icmpNo X102.here hx rfl (hb hby d12_55) rfl (feq c33).1 k) ?_
                  show Aq T102 58 #[vr a1, vi 0, vi i2, vi xv, s4] []
                  refine Done.step (fun t k => XS.iloadN X102.here hx rfl (hb hby d12_58) rfl k) ?_
                  show Aq T102 59 #[vr a1, vi 0, vi i2, vi xv, s4] [(.int xv)]
                  refine Done.step (fun t k => XS.bipush X102.here hx rfl (hb hby d12_59) k) ?_
                  show Aq T102 61 #[vr a1, vi 0, vi i2, vi xv, s4] [(.int 45), (.int xv)]
                  by_cases c34 : xv = (45 : Int32)
                  · refine Done.step (fun t k => XS.icmpYes X102.here hx rfl (pc0 := 61) (pc' := 80) rfl (hb hby d12_61) rfl (teq c34).1 (by decide) (by decide) k) ?_
                    show Aq T102 80 #[vr a1, vi 0, vi i2, vi xv, s4] []
                    refine Done.step (fun t k => XS.iconst X102.here hx rfl (hb hby d12_80) k) ?_
                    show Aq T102 81 #[vr a1, vi 0, vi i2, vi xv, s4] [(.int 1)]
                    refine Done.step (fun t k => XS.goto X102.here hx rfl (pc0 := 81) (pc' := 85) rfl (hb hby d12_81) (by decide) (by decide) k) ?_
                    show Aq T102 85 #[vr a1, vi 0, vi i2, vi xv, s4] [(.int 1)]
                    refine Done.step (fun t k => XS.istore X102.here hx rfl (hb hby d12_85) rfl (l' := #[vr a1, vi 0, vi i2, vi xv, vi 1]) (by rcases hs4 with rfl | ⟨z, rfl⟩ <;> rfl) k) ?_
                    show Aq T102 87 #[vr a1, vi 0, vi i2, vi xv, vi 1] []
                    refine Done.step (fun t k => XS.iload X102.here hx rfl (hb hby d12_87) rfl k) ?_
                    show Aq T102 89 #[vr a1, vi 0, vi i2, vi xv, vi 1] [(.int 1)]
                    refine Done.step (fun t k => XS.ifYes X102.here hx rfl (pc0 := 89) (pc' := 94) rfl (hb hby d12_89) rfl ((if0 _ _).trans (feq (by decide)).2) (by decide) (by decide) k) ?_
                    show Aq T102 94 #[vr a1, vi 0, vi i2, vi xv, vi 1] []
                    refine Done.step (fun t k => XS.iinc X102.here hx rfl (hb hby d12_94) rfl (l' := #[vr a1, vi 0, vi (i2 + (1 : Int32)), vi xv, vi 1]) rfl k) ?_
                    show Aq T102 97 #[vr a1, vi 0, vi (i2 + (1 : Int32)), vi xv, vi 1] []
                    refine Done.step (fun t k => XS.goto X102.here hx rfl (pc0 := 97) (pc' := 2) rfl (hb hby d12_97) (by decide) (by decide) k) ?_
                    show Aq T102 2 #[vr a1, vi 0, vi (i2 + (1 : Int32)), vi xv, vi 1] []
                    have hok : Okc xv := by
                      simp only [Int32.lt_iff_toInt_lt, ← Int32.toInt_inj, tl32_0, tl32_1, tl32_122, tl32_45, tl32_46, tl32_48, tl32_57, tl32_65, tl32_90, tl32_95, tl32_97] at c2 c21 c22 c31 c32 c33 c34
                      unfold Okc; omega
                    rw [MO, if_pos (own_okT hok)] at hR
                    exact ih T102 _ (i2 + (1 : Int32)) (vi xv) (vi 1) (ii + 1) X102 N102 Z0 e102 (Or.inr ⟨_, rfl⟩) (Or.inr ⟨_, rfl⟩) (by omega) (own_inc hi (by have := D.2.2.2.2.1; omega)) (by omega) hR
                  · refine Done.step (fun t k => XS.icmpNo X102.here hx rfl (hb hby d12_61) rfl (feq c34).1 k) ?_
                    show Aq T102 64 #[vr a1, vi 0, vi i2, vi xv, s4] []
                    refine Done.step (fun t k => XS.iloadN X102.here hx rfl (hb hby d12_64) rfl k) ?_
                    show Aq T102 65 #[vr a1, vi 0, vi i2, vi xv, s4] [(.int xv)]
                    refine Done.step (fun t k => XS.bipush X102.here hx rfl (hb hby d12_65) k) ?_
                    show Aq T102 67 #[vr a1, vi 0, vi i2, vi xv, s4] [(.int 95), (.int xv)]
                    by_cases c35 : xv = (95 : Int32)
                    · refine Done.step (fun t k => XS.icmpYes X102.here hx rfl (pc0 := 67) (pc' := 80) rfl (hb hby d12_67) rfl (teq c35).1 (by decide) (by decide) k) ?_
                      show Aq T102 80 #[vr a1, vi 0, vi i2, vi xv, s4] []
                      refine Done.step (fun t k => XS.iconst X102.here hx rfl (hb hby d12_80) k) ?_
                      show Aq T102 81 #[vr a1, vi 0, vi i2, vi xv, s4] [(.int 1)]
                      refine Done.step (fun t k => XS.goto X102.here hx rfl (pc0 := 81) (pc' := 85) rfl (hb hby d12_81) (by decide) (by decide) k) ?_
                      show Aq T102 85 #[vr a1, vi 0, vi i2, vi xv, s4] [(.int 1)]
                      refine Done.step (fun t k => XS.istore X102.here hx rfl (hb hby d12_85) rfl (l' := #[vr a1, vi 0, vi i2, vi xv, vi 1]) (by rcases hs4 with rfl | ⟨z, rfl⟩ <;> rfl) k) ?_
                      show Aq T102 87 #[vr a1, vi 0, vi i2, vi xv, vi 1] []
                      refine Done.step (fun t k => XS.iload X102.here hx rfl (hb hby d12_87) rfl k) ?_
                      show Aq T102 89 #[vr a1, vi 0, vi i2, vi xv, vi 1] [(.int 1)]
                      refine Done.step (fun t k => XS.ifYes X102.here hx rfl (pc0 := 89) (pc' := 94) rfl (hb hby d12_89) rfl ((if0 _ _).trans (feq (by decide)).2) (by decide) (by decide) k) ?_
                      show Aq T102 94 #[vr a1, vi 0, vi i2, vi xv, vi 1] []
                      refine Done.step (fun t k => XS.iinc X102.here hx rfl (hb hby d12_94) rfl (l' := #[vr a1, vi 0, vi (i2 + (1 : Int32)), vi xv, vi 1]) rfl k) ?_
                      show Aq T102 97 #[vr a1, vi 0, vi (i2 + (1 : Int32)), vi xv, vi 1] []
                      refine Done.step (fun t k => XS.goto X102.here hx rfl (pc0 := 97) (pc' := 2) rfl (hb hby d12_97) (by decide) (by decide) k) ?_
                      show Aq T102 2 #[vr a1, vi 0, vi (i2 + (1 : Int32)), vi xv, vi 1] []
                      have hok : Okc xv := by
                        simp only [Int32.lt_iff_toInt_lt, ← Int32.toInt_inj, tl32_0, tl32_1, tl32_122, tl32_45, tl32_46, tl32_48, tl32_57, tl32_65, tl32_90, tl32_95, tl32_97] at c2 c21 c22 c31 c32 c33 c34 c35
                        unfold Okc; omega
                      rw [MO, if_pos (own_okT hok)] at hR
                      exact ih T102 _ (i2 + (1 : Int32)) (vi xv) (vi 1) (ii + 1) X102 N102 Z0 e102 (Or.inr ⟨_, rfl⟩) (Or.inr ⟨_, rfl⟩) (by omega) (own_inc hi (by have := D.2.2.2.2.1; omega)) (by omega) hR
                    · refine Done.step (fun t k => XS.icmpNo X102.here hx rfl (hb hby d12_67) rfl (feq c35).1 k) ?_
                      show Aq T102 70 #[vr a1, vi 0, vi i2, vi xv, s4] []
                      refine Done.step (fun t k => XS.iloadN X102.here hx rfl (hb hby d12_70) rfl k) ?_
                      show Aq T102 71 #[vr a1, vi 0, vi i2, vi xv, s4] [(.int 0)]
                      refine Done.step (fun t k => XS.ifYes X102.here hx rfl (pc0 := 71) (pc' := 84) rfl (hb hby d12_71) rfl ((if0 _ _).trans (teq (by decide)).1) (by decide) (by decide) k) ?_
                      show Aq T102 84 #[vr a1, vi 0, vi i2, vi xv, s4] []
                      refine Done.step (fun t k => XS.iconst X102.here hx rfl (hb hby d12_84) k) ?_
                      show Aq T102 85 #[vr a1, vi 0, vi i2, vi xv, s4] [(.int 0)]
                      refine Done.step (fun t k => XS.istore X102.here hx rfl (hb hby d12_85) rfl (l' := #[vr a1, vi 0, vi i2, vi xv, vi 0]) (by rcases hs4 with rfl | ⟨z, rfl⟩ <;> rfl) k) ?_
                      show Aq T102 87 #[vr a1, vi 0, vi i2, vi xv, vi 0] []
                      refine Done.step (fun t k => XS.iload X102.here hx rfl (hb hby d12_87) rfl k) ?_
                      show Aq T102 89 #[vr a1, vi 0, vi i2, vi xv, vi 0] [(.int 0)]
                      refine Done.step (fun t k => XS.ifNo X102.here hx rfl (hb hby d12_89) rfl ((if0 _ _).trans (teq (by decide)).2) k) ?_
                      show Aq T102 92 #[vr a1, vi 0, vi i2, vi xv, vi 0] []
                      refine Done.step (fun t k => XS.iconst X102.here hx rfl (hb hby d12_92) k) ?_
                      show Aq T102 93 #[vr a1, vi 0, vi i2, vi xv, vi 0] [(.int 0)]
                      have hok : ¬ Okc xv := by
                        simp only [Int32.lt_iff_toInt_lt, ← Int32.toInt_inj, tl32_0, tl32_1, tl32_122, tl32_45, tl32_46, tl32_48, tl32_57, tl32_65, tl32_90, tl32_95, tl32_97] at c2 c21 c22 c31 c32 c33 c34 c35
                        unfold Okc; omega
                      rw [MO, if_neg (own_okF hok)] at hR
                      exact Done.narr X102 hx hlk hret (by simp) (hb hby d12_93) (by decide) (by decide) ⟨by rw [← hR]; rfl, N102, e102⟩
              · refine Done.step (fun t k => XS.icmpNo X102.here hx rfl (hb hby d12_43) rfl (flt c32).1 k) ?_
                show Aq T102 46 #[vr a1, vi 0, vi i2, vi xv, s4] []
                refine Done.step (fun t k => XS.iloadN X102.here hx rfl (hb hby d12_46) rfl k) ?_
                show Aq T102 47 #[vr a1, vi 0, vi i2, vi xv, s4] [(.int xv)]
                refine Done.step (fun t k => XS.bipush X102.here hx rfl (hb hby d12_47) k) ?_
                show Aq T102 49 #[vr a1, vi 0, vi i2, vi xv, s4] [(.int 57), (.int xv)]
                by_cases c36 : (57 : Int32) < xv
                · refine Done.step (fun t k => XS.icmpNo X102.here hx rfl (hb hby d12_49) rfl (tlt c36).2.2.2 k) ?_
                  show Aq T102 52 #[vr a1, vi 0, vi i2, vi xv, s4] []
                  refine Done.step (fun t k => XS.iloadN X102.here hx rfl (hb hby d12_52) rfl k) ?_
                  show Aq T102 53 #[vr a1, vi 0, vi i2, vi xv, s4] [(.int xv)]
                  refine Done.step (fun t k => XS.bipush X102.here hx rfl (hb hby d12_53) k) ?_
                  show Aq T102 55 #[vr a1, vi 0, vi i2, vi xv, s4] [(.int 46), (.int xv)]
                  by_cases c37 : xv = (46 : Int32)
                  · refine Done.step (fun t k => XS.icmpYes X102.here hx rfl (pc0 := 55) (pc' := 80) rfl (hb hby d12_55) rfl (teq c37).1 (by decide) (by decide) k) ?_
                    show Aq T102 80 #[vr a1, vi 0, vi i2, vi xv, s4] []
                    refine Done.step (fun t k => XS.iconst X102.here hx rfl (hb hby d12_80) k) ?_
                    show Aq T102 81 #[vr a1, vi 0, vi i2, vi xv, s4] [(.int 1)]
                    refine Done.step (fun t k => XS.goto X102.here hx rfl (pc0 := 81) (pc' := 85) rfl (hb hby d12_81) (by decide) (by decide) k) ?_
                    show Aq T102 85 #[vr a1, vi 0, vi i2, vi xv, s4] [(.int 1)]
                    refine Done.step (fun t k => XS.istore X102.here hx rfl (hb hby d12_85) rfl (l' := #[vr a1, vi 0, vi i2, vi xv, vi 1]) (by rcases hs4 with rfl | ⟨z, rfl⟩ <;> rfl) k) ?_
                    show Aq T102 87 #[vr a1, vi 0, vi i2, vi xv, vi 1] []
                    refine Done.step (fun t k => XS.iload X102.here hx rfl (hb hby d12_87) rfl k) ?_
                    show Aq T102 89 #[vr a1, vi 0, vi i2, vi xv, vi 1] [(.int 1)]
                    refine Done.step (fun t k => XS.ifYes X102.here hx rfl (pc0 := 89) (pc' := 94) rfl (hb hby d12_89) rfl ((if0 _ _).trans (feq (by decide)).2) (by decide) (by decide) k) ?_
                    show Aq T102 94 #[vr a1, vi 0, vi i2, vi xv, vi 1] []
                    refine Done.step (fun t k => XS.iinc X102.here hx rfl (hb hby d12_94) rfl (l' := #[vr a1, vi 0, vi (i2 + (1 : Int32)), vi xv, vi 1]) rfl k) ?_
                    show Aq T102 97 #[vr a1, vi 0, vi (i2 + (1 : Int32)), vi xv, vi 1] []
                    refine Done.step (fun t k => XS.goto X102.here hx rfl (pc0 := 97) (pc' := 2) rfl (hb hby d12_97) (by decide) (by decide) k) ?_
                    show Aq T102 2 #[vr a1, vi 0, vi (i2 + (1 : Int32)), vi xv, vi 1] []
                    have hok : Okc xv := by
                      simp only [Int32.lt_iff_toInt_lt, ← Int32.toInt_inj, tl32_0, tl32_1, tl32_122, tl32_45, tl32_46, tl32_48, tl32_57, tl32_65, tl32_90, tl32_95, tl32_97] at c2 c21 c22 c31 c32 c36 c37
                      unfold Okc; omega
                    rw [MO, if_pos (own_okT hok)] at hR
                    exact ih T102 _ (i2 + (1 : Int32)) (vi xv) (vi 1) (ii + 1) X102 N102 Z0 e102 (Or.inr ⟨_, rfl⟩) (Or.inr ⟨_, rfl⟩) (by omega) (own_inc hi (by have := D.2.2.2.2.1; omega)) (by omega) hR
                  · refine Done.step (fun t k => XS.icmpNo X102.here hx rfl (hb hby d12_55) rfl (feq c37).1 k) ?_
                    show Aq T102 58 #[vr a1, vi 0, vi i2, vi xv, s4] []
                    refine Done.step (fun t k => XS.iloadN X102.here hx rfl (hb hby d12_58) rfl k) ?_
                    show Aq T102 59 #[vr a1, vi 0, vi i2, vi xv, s4] [(.int xv)]
                    refine Done.step (fun t k => XS.bipush X102.here hx rfl (hb hby d12_59) k) ?_
                    show Aq T102 61 #[vr a1, vi 0, vi i2, vi xv, s4] [(.int 45), (.int xv)]
                    by_cases c38 : xv = (45 : Int32)
                    · refine Done.step (fun t k => XS.icmpYes X102.here hx rfl (pc0 := 61) (pc' := 80) rfl (hb hby d12_61) rfl (teq c38).1 (by decide) (by decide) k) ?_
                      show Aq T102 80 #[vr a1, vi 0, vi i2, vi xv, s4] []
                      refine Done.step (fun t k => XS.iconst X102.here hx rfl (hb hby d12_80) k) ?_
                      show Aq T102 81 #[vr a1, vi 0, vi i2, vi xv, s4] [(.int 1)]
                      refine Done.step (fun t k => XS.goto X102.here hx rfl (pc0 := 81) (pc' := 85) rfl (hb hby d12_81) (by decide) (by decide) k) ?_
                      show Aq T102 85 #[vr a1, vi 0, vi i2, vi xv, s4] [(.int 1)]
                      refine Done.step (fun t k => XS.istore X102.here hx rfl (hb hby d12_85) rfl (l' := #[vr a1, vi 0, vi i2, vi xv, vi 1]) (by rcases hs4 with rfl | ⟨z, rfl⟩ <;> rfl) k) ?_
                      show Aq T102 87 #[vr a1, vi 0, vi i2, vi xv, vi 1] []
                      refine Done.step (fun t k => XS.iload X102.here hx rfl (hb hby d12_87) rfl k) ?_
                      show Aq T102 89 #[vr a1, vi 0, vi i2, vi xv, vi 1] [(.int 1)]
                      refine Done.step (fun t k => XS.ifYes X102.here hx rfl (pc0 := 89) (pc' := 94) rfl (hb hby d12_89) rfl ((if0 _ _).trans (feq (by decide)).2) (by decide) (by decide) k) ?_
                      show Aq T102 94 #[vr a1, vi 0, vi i2, vi xv, vi 1] []
                      refine Done.step (fun t k => XS.iinc X102.here hx rfl (hb hby d12_94) rfl (l' := #[vr a1, vi 0, vi (i2 + (1 : Int32)), vi xv, vi 1]) rfl k) ?_
                      show Aq T102 97 #[vr a1, vi 0, vi (i2 + (1 : Int32)), vi xv, vi 1] []
                      refine Done.step (fun t k => XS.goto X102.here hx rfl (pc0 := 97) (pc' := 2) rfl (hb hby d12_97) (by decide) (by decide) k) ?_
                      show Aq T102 2 #[vr a1, vi 0, vi (i2 + (1 : Int32)), vi xv, vi 1] []
                      have hok : Okc xv := by
                        simp only [Int32.lt_iff_toInt_lt, ← Int32.toInt_inj, tl32_0, tl32_1, tl32_122, tl32_45, tl32_46, tl32_48, tl32_57, tl32_65, tl32_90, tl32_95, tl32_97] at c2 c21 c22 c31 c32 c36 c37 c38
                        unfold Okc; omega
                      rw [MO, if_pos (own_okT hok)] at hR
                      exact ih T102 _ (i2 + (1 : Int32)) (vi xv) (vi 1) (ii + 1) X102 N102 Z0 e102 (Or.inr ⟨_, rfl⟩) (Or.inr ⟨_, rfl⟩) (by omega) (own_inc hi (by have := D.2.2.2.2.1; omega)) (by omega) hR
                    · refine Done.step (fun t k => XS.icmpNo X102.here hx rfl (hb hby d12_61) rfl (feq c38).1 k) ?_
                      show Aq T102 64 #[vr a1, vi 0, vi i2, vi xv, s4] []
                      refine Done.step (fun t k => XS.iloadN X102.here hx rfl (hb hby d12_64) rfl k) ?_
                      show Aq T102 65 #[vr a1, vi 0, vi i2, vi xv, s4] [(.int xv)]
                      refine Done.step (fun t k => XS.bipush X102.here hx rfl (hb hby d12_65) k) ?_
                      show Aq T102 67 #[vr a1, vi 0, vi i2, vi xv, s4] [(.int 95), (.int xv)]
                      by_cases c39 : xv = (95 : Int32)
                      · refine Done.step (fun t k => XS.icmpYes X102.here hx rfl (pc0 := 67) (pc' := 80) rfl (hb hby d12_67) rfl (teq c39).1 (by decide) (by decide) k) ?_
                        show Aq T102 80 #[vr a1, vi 0, vi i2, vi xv, s4] []
                        refine Done.step (fun t k => XS.iconst X102.here hx rfl (hb hby d12_80) k) ?_
                        show Aq T102 81 #[vr a1, vi 0, vi i2, vi xv, s4] [(.int 1)]
                        refine Done.step (fun t k => XS.goto X102.here hx rfl (pc0 := 81) (pc' := 85) rfl (hb hby d12_81) (by decide) (by decide) k) ?_
                        show Aq T102 85 #[vr a1, vi 0, vi i2, vi xv, s4] [(.int 1)]
                        refine Done.step (fun t k => XS.istore X102.here hx rfl (hb hby d12_85) rfl (l' := #[vr a1, vi 0, vi i2, vi xv, vi 1]) (by rcases hs4 with rfl | ⟨z, rfl⟩ <;> rfl) k) ?_
                        show Aq T102 87 #[vr a1, vi 0, vi i2, vi xv, vi 1] []
                        refine Done.step (fun t k => XS.iload X102.here hx rfl (hb hby d12_87) rfl k) ?_
                        show Aq T102 89 #[vr a1, vi 0, vi i2, vi xv, vi 1] [(.int 1)]
                        refine Done.step (fun t k => XS.ifYes X102.here hx rfl (pc0 := 89) (pc' := 94) rfl (hb hby d12_89) rfl ((if0 _ _).trans (feq (by decide)).2) (by decide) (by decide) k) ?_
                        show Aq T102 94 #[vr a1, vi 0, vi i2, vi xv, vi 1] []
                        refine Done.step (fun t k => XS.iinc X102.here hx rfl (hb hby d12_94) rfl (l' := #[vr a1, vi 0, vi (i2 + (1 : Int32)), vi xv, vi 1]) rfl k) ?_
                        show Aq T102 97 #[vr a1, vi 0, vi (i2 + (1 : Int32)), vi xv, vi 1] []
                        refine Done.step (fun t k => XS.goto X102.here hx rfl (pc0 := 97) (pc' := 2) rfl (hb hby d12_97) (by decide) (by decide) k) ?_
                        show Aq T102 2 #[vr a1, vi 0, vi (i2 + (1 : Int32)), vi xv, vi 1] []
                        have hok : Okc xv := by
                          simp only [Int32.lt_iff_toInt_lt, ← Int32.toInt_inj, tl32_0, tl32_1, tl32_122, tl32_45, tl32_46, tl32_48, tl32_57, tl32_65, tl32_90, tl32_95, tl32_97] at c2 c21 c22 c31 c32 c36 c37 c38 c39
                          unfold Okc; omega
                        rw [MO, if_pos (own_okT hok)] at hR
                        exact ih T102 _ (i2 + (1 : Int32)) (vi xv) (vi 1) (ii + 1) X102 N102 Z0 e102 (Or.inr ⟨_, rfl⟩) (Or.inr ⟨_, rfl⟩) (by omega) (own_inc hi (by have := D.2.2.2.2.1; omega)) (by omega) hR
                      · refine Done.step (fun t k => XS.icmpNo X102.here hx rfl (hb hby d12_67) rfl (feq c39).1 k) ?_
                        show Aq T102 70 #[vr a1, vi 0, vi i2, vi xv, s4] []
                        refine Done.step (fun t k => XS.iloadN X102.here hx rfl (hb hby d12_70) rfl k) ?_
                        show Aq T102 71 #[vr a1, vi 0, vi i2, vi xv, s4] [(.int 0)]
                        refine Done.step (fun t k => XS.ifYes X102.here hx rfl (pc0 := 71) (pc' := 84) rfl (hb hby d12_71) rfl ((if0 _ _).trans (teq (by decide)).1) (by decide) (by decide) k) ?_
                        show Aq T102 84 #[vr a1, vi 0, vi i2, vi xv, s4] []
                        refine Done.step (fun t k => XS.iconst X102.here hx rfl (hb hby d12_84) k) ?_
                        show Aq T102 85 #[vr a1, vi 0, vi i2, vi xv, s4] [(.int 0)]
                        refine Done.step (fun t k => XS.istore X102.here hx rfl (hb hby d12_85) rfl (l' := #[vr a1, vi 0, vi i2, vi xv, vi 0]) (by rcases hs4 with rfl | ⟨z, rfl⟩ <;> rfl) k) ?_
                        show Aq T102 87 #[vr a1, vi 0, vi i2, vi xv, vi 0] []
                        refine Done.step (fun t k => XS.iload X102.here hx rfl (hb hby d12_87) rfl k) ?_
                        show Aq T102 89 #[vr a1, vi 0, vi i2, vi xv, vi 0] [(.int 0)]
                        refine Done.step (fun t k => XS.ifNo X102.here hx rfl (hb hby d12_89) rfl ((if0 _ _).trans (teq (by decide)).2) k) ?_
                        show Aq T102 92 #[vr a1, vi 0, vi i2, vi xv, vi 0] []
                        refine Done.step (fun t k => XS.iconst X102.here hx rfl (hb hby d12_92) k) ?_
                        show Aq T102 93 #[vr a1, vi 0, vi i2, vi xv, vi 0] [(.int 0)]
                        have hok : ¬ Okc xv := by
                          simp only [Int32.lt_iff_toInt_lt, ← Int32.toInt_inj, tl32_0, tl32_1, tl32_122, tl32_45, tl32_46, tl32_48, tl32_57, tl32_65, tl32_90, tl32_95, tl32_97] at c2 c21 c22 c31 c32 c36 c37 c38 c39
                          unfold Okc; omega
                        rw [MO, if_neg (own_okF hok)] at hR
                        exact Done.narr X102 hx hlk hret (by simp) (hb hby d12_93) (by decide) (by decide) ⟨by rw [← hR]; rfl, N102, e102⟩
                · refine Done.step (fun t k => XS.icmpYes X102.here hx rfl (pc0 := 49) (pc' := 80) rfl (hb hby d12_49) rfl (flt c36).2.2.2 (by decide) (by decide) k) ?_
                  show Aq T102 80 #[vr a1, vi 0, vi i2, vi xv, s4] []
                  refine Done.step (fun t k => XS.iconst X102.here hx rfl (hb hby d12_80) k) ?_
                  show Aq T102 81 #[vr a1, vi 0, vi i2, vi xv, s4] [(.int 1)]
                  refine Done.step (fun t k => XS.goto X102.here hx rfl (pc0 := 81) (pc' := 85) rfl (hb hby d12_81) (by decide) (by decide) k) ?_
                  show Aq T102 85 #[vr a1, vi 0, vi i2, vi xv, s4] [(.int 1)]
                  refine Done.step (fun t k => XS.istore X102.here hx rfl (hb hby d12_85) rfl (l' := #[vr a1, vi 0, vi i2, vi xv, vi 1]) (by rcases hs4 with rfl | ⟨z, rfl⟩ <;> rfl) k) ?_
                  show Aq T102 87 #[vr a1, vi 0, vi i2, vi xv, vi 1] []
                  refine Done.step (fun t k => XS.iload X102.here hx rfl (hb hby d12_87) rfl k) ?_
                  show Aq T102 89 #[vr a1, vi 0, vi i2, vi xv, vi 1] [(.int 1)]
                  refine Done.step (fun t k => XS.ifYes X102.here hx rfl (pc0 := 89) (pc' := 94) rfl (hb hby d12_89) rfl ((if0 _ _).trans (feq (by decide)).2) (by decide) (by decide) k) ?_
                  show Aq T102 94 #[vr a1, vi 0, vi i2, vi xv, vi 1] []
                  refine Done.step (fun t k => XS.iinc X102.here hx rfl (hb hby d12_94) rfl (l' := #[vr a1, vi 0, vi (i2 + (1 : Int32)), vi xv, vi 1]) rfl k) ?_
                  show Aq T102 97 #[vr a1, vi 0, vi (i2 + (1 : Int32)), vi xv, vi 1] []
                  refine Done.step (fun t k => XS.goto X102.here hx rfl (pc0 := 97) (pc' := 2) rfl (hb hby d12_97) (by decide) (by decide) k) ?_
                  show Aq T102 2 #[vr a1, vi 0, vi (i2 + (1 : Int32)), vi xv, vi 1] []
                  have hok : Okc xv := by
                    simp only [Int32.lt_iff_toInt_lt, ← Int32.toInt_inj, tl32_0, tl32_1, tl32_122, tl32_45, tl32_46, tl32_48, tl32_57, tl32_65, tl32_90, tl32_95, tl32_97] at c2 c21 c22 c31 c32 c36
                    unfold Okc; omega
                  rw [MO, if_pos (own_okT hok)] at hR
                  exact ih T102 _ (i2 + (1 : Int32)) (vi xv) (vi 1) (ii + 1) X102 N102 Z0 e102 (Or.inr ⟨_, rfl⟩) (Or.inr ⟨_, rfl⟩) (by omega) (own_inc hi (by have := D.2.2.2.2.1; omega)) (by omega) hR
            · refine Done.step (fun t k => XS.icmpYes X102.here hx rfl (pc0 := 37) (pc' := 80) rfl (hb hby d12_37) rfl (flt c31).2.2.2 (by decide) (by decide) k) ?_
              show Aq T102 80 #[vr a1, vi 0, vi i2, vi xv, s4] []
              refine Done.step (fun t k => XS.iconst X102.here hx rfl (hb hby d12_80) k) ?_
              show Aq T102 81 #[vr a1, vi 0, vi i2, vi xv, s4] [(.int 1)]
              refine Done.step (fun t k => XS.goto X102.here hx rfl (pc0 := 81) (pc' := 85) rfl (hb hby d12_81) (by decide) (by decide) k) ?_
              show Aq T102 85 #[vr a1, vi 0, vi i2, vi xv, s4] [(.int 1)]
              refine Done.step (fun t k => XS.istore X102.here hx rfl (hb hby d12_85) rfl (l' := #[vr a1, vi 0, vi i2, vi xv, vi 1]) (by rcases hs4 with rfl | ⟨z, rfl⟩ <;> rfl) k) ?_
              show Aq T102 87 #[vr a1, vi 0, vi i2, vi xv, vi 1] []
              refine Done.step (fun t k => XS.iload X102.here hx rfl (hb hby d12_87) rfl k) ?_
              show Aq T102 89 #[vr a1, vi 0, vi i2, vi xv, vi 1] [(.int 1)]
              refine Done.step (fun t k => XS.ifYes X102.here hx rfl (pc0 := 89) (pc' := 94) rfl (hb hby d12_89) rfl ((if0 _ _).trans (feq (by decide)).2) (by decide) (by decide) k) ?_
              show Aq T102 94 #[vr a1, vi 0, vi i2, vi xv, vi 1] []
              refine Done.step (fun t k => XS.iinc X102.here hx rfl (hb hby d12_94) rfl (l' := #[vr a1, vi 0, vi (i2 + (1 : Int32)), vi xv, vi 1]) rfl k) ?_
              show Aq T102 97 #[vr a1, vi 0, vi (i2 + (1 : Int32)), vi xv, vi 1] []
              refine Done.step (fun t k => XS.goto X102.here hx rfl (pc0 := 97) (pc' := 2) rfl (hb hby d12_97) (by decide) (by decide) k) ?_
              show Aq T102 2 #[vr a1, vi 0, vi (i2 + (1 : Int32)), vi xv, vi 1] []
              have hok : Okc xv := by
                simp only [Int32.lt_iff_toInt_lt, ← Int32.toInt_inj, tl32_0, tl32_1, tl32_122, tl32_45, tl32_46, tl32_48, tl32_57, tl32_65, tl32_90, tl32_95, tl32_97] at c2 c21 c22 c31
                unfold Okc; omega
              rw [MO, if_pos (own_okT hok)] at hR
              exact ih T102 _ (i2 + (1 : Int32)) (vi xv) (vi 1) (ii + 1) X102 N102 Z0 e102 (Or.inr ⟨_, rfl⟩) (Or.inr ⟨_, rfl⟩) (by omega) (own_inc hi (by have := D.2.2.2.2.1; omega)) (by omega) hR
        · refine Done.step (fun t k => XS.icmpYes X102.here hx rfl (pc0 := 25) (pc' := 80) rfl (hb hby d12_25) rfl (flt c21).2.2.2 (by decide) (by decide) k) ?_
          show Aq T102 80 #[vr a1, vi 0, vi i2, vi xv, s4] []
          refine Done.step (fun t k => XS.iconst X102.here hx rfl (hb hby d12_80) k) ?_
          show Aq T102 81 #[vr a1, vi 0, vi i2, vi xv, s4] [(.int 1)]
          refine Done.step (fun t k => XS.goto X102.here hx rfl (pc0 := 81) (pc' := 85) rfl (hb hby d12_81) (by decide) (by decide) k) ?_
          show Aq T102 85 #[vr a1, vi 0, vi i2, vi xv, s4] [(.int 1)]
          refine Done.step (fun t k => XS.istore X102.here hx rfl (hb hby d12_85) rfl (l' := #[vr a1, vi 0, vi i2, vi xv, vi 1]) (by rcases hs4 with rfl | ⟨z, rfl⟩ <;> rfl) k) ?_
          show Aq T102 87 #[vr a1, vi 0, vi i2, vi xv, vi 1] []
          refine Done.step (fun t k => XS.iload X102.here hx rfl (hb hby d12_87) rfl k) ?_
          show Aq T102 89 #[vr a1, vi 0, vi i2, vi xv, vi 1] [(.int 1)]
          refine Done.step (fun t k => XS.ifYes X102.here hx rfl (pc0 := 89) (pc' := 94) rfl (hb hby d12_89) rfl ((if0 _ _).trans (feq (by decide)).2) (by decide) (by decide) k) ?_
          show Aq T102 94 #[vr a1, vi 0, vi i2, vi xv, vi 1] []
          refine Done.step (fun t k => XS.iinc X102.here hx rfl (hb hby d12_94) rfl (l' := #[vr a1, vi 0, vi (i2 + (1 : Int32)), vi xv, vi 1]) rfl k) ?_
          show Aq T102 97 #[vr a1, vi 0, vi (i2 + (1 : Int32)), vi xv, vi 1] []
          refine Done.step (fun t k => XS.goto X102.here hx rfl (pc0 := 97) (pc' := 2) rfl (hb hby d12_97) (by decide) (by decide) k) ?_
          show Aq T102 2 #[vr a1, vi 0, vi (i2 + (1 : Int32)), vi xv, vi 1] []
          have hok : Okc xv := by
            simp only [Int32.lt_iff_toInt_lt, ← Int32.toInt_inj, tl32_0, tl32_1, tl32_122, tl32_45, tl32_46, tl32_48, tl32_57, tl32_65, tl32_90, tl32_95, tl32_97] at c2 c21
            unfold Okc; omega
          rw [MO, if_pos (own_okT hok)] at hR
          exact ih T102 _ (i2 + (1 : Int32)) (vi xv) (vi 1) (ii + 1) X102 N102 Z0 e102 (Or.inr ⟨_, rfl⟩) (Or.inr ⟨_, rfl⟩) (by omega) (own_inc hi (by have := D.2.2.2.2.1; omega)) (by omega) hR
    · refine Done.step (fun t k => XS.icmpYes X101.here hx rfl (pc0 := 7) (pc' := 100) rfl (hb hby d12_7) rfl (flt c1).2.1 (by decide) (by decide) k) ?_
      show Aq T101 100 #[vr a1, vi 0, vi i2, s3, s4] []
      refine Done.step (fun t k => XS.iconst X101.here hx rfl (hb hby d12_100) k) ?_
      show Aq T101 101 #[vr a1, vi 0, vi i2, s3, s4] [(.int 1)]
      have hge : ii = xs.length := by have q := Nat.not_lt.mp (fun q => c1 ((own_lt hi D.2.2.2.1).mpr q)); omega
      rw [hge, List.drop_length, MO] at hR
      exact Done.narr X101 hx hlk hret (by simp) (hb hby d12_101) (by decide) (by decide) ⟨by rw [← hR]; rfl, N101, e101⟩
theorem d12_0 : dq cd22 0 (.iconst 0) 1 := by decide +kernel
theorem d12_1 : dq cd22 1 (.istore_n 2) 1 := by decide +kernel
theorem pn_12 : plainName "com/example/stowage/stowage/model/Names" = true := by first | (simp [plainName, overriddenIn]; done) | decide +kernel
theorem ef_12 (m : MethodId) (a1 : Addr) (p2 : Int32) : entryFrame m #[(.ref a1), (.int p2)] 5 = mkF m 0 #[.val (.ref a1), .val (.int p2), .unset, .unset, .unset] [] := by first | (simp [entryFrame, mkF, argsToLocals, Value.category]; done) | rfl
def Qrm12 (Z : State) (a1 : Addr) (p2 : Int32) (vb : Addr) (kk : Int32) (vs : List Value) (mI nI cs : Int32) (sv : Value) (xs : List Int32) (h0 : Heap) (n0 : Nat) : Option Value → Heap → List Loc → Prop := fun v h L => v = some (.int (MO xs)) ∧ Fr n0 L ∧ h = h0
set_option maxRecDepth 65536 in
set_option maxHeartbeats 40000000 in
theorem rm12 (l : Launch) (Z : State) (a0 : Array Value) (hw : HH a0 Z) (ws : List Jvm.Cond) (a1 : Addr) (p2 : Int32) (vb : Addr) (kk : Int32) (vs : List Value) (mI nI cs : Int32) (sv : Value) (xs : List Int32) (h0 : Heap) (n0 : Nat) (Z0 : n0 ≤ h0.size) (E1 : Fl2 Z h0 a1) (F1 : Fl1 Z h0 a1 (.ref vb)) (F2 : Fl0 Z h0 a1 (.int kk)) (A1 : Ax Z h0 vb .byte vs) (D : StrD kk vs mI nI xs) (Scs : Sta Z h0 "java/lang/String" "COMPACT_STRINGS" "Z" (.int cs)) (Ssx : Sta Z h0 "jdk/internal/util/Preconditions" "SIOOBE_FORMATTER" "Ljava/util/function/BiFunction;" sv) (hsv : sv.isRef = true) (Sad : Sta Z h0 "java/lang/StringUTF16" "$assertionsDisabled" "Z" (.int 1)) (Shi : Sta Z h0 "java/lang/StringUTF16" "HI_BYTE_SHIFT" "I" (.int 0)) (Slo : Sta Z h0 "java/lang/StringUTF16" "LO_BYTE_SHIFT" "I" (.int 8)) (hcs : ¬ cs = (0 : Int32)) (hp2 : p2 = (0 : Int32)) :
    MetFree l (⟨"com/example/stowage/stowage/model/Names", "madeOf", "(Ljava/lang/String;Z)Z"⟩ : MethodName) (head1 (Jvm.Cond.code (⟨"com/example/stowage/stowage/model/Names", "madeOf", "(Ljava/lang/String;Z)Z"⟩ : MethodName) prog_7_method_5_code 5 (some .boolean) :: ws) ({ frames := 6, cells := 0, slots := 0, locals := 110 } : Room)) (fun a U => a = #[(.ref a1), (.int p2)] ∧ Z.Warmed39 U.vm ∧ U.heap = h0) (fun _ _ _ _ _ => True) (fun _ U o U' => ∃ v L, o = .returned v ∧ Qrm12 Z a1 p2 vb kk vs mI nI cs sv xs h0 n0 v U'.heap L ∧ FrameEnd U o U' L ({ frames := 6, cells := 0, slots := 0, locals := 110 } : Room).cells ({ frames := 6, cells := 0, slots := 0, locals := 110 } : Room).slots) := by
  refine MetFree.of_bodySF (plainFor_of_name pn_12) hisR ?_
  intro p e s m args below meth c s₁ Bd hml0 hP hK
  obtain ⟨rfl, hZ, hhp⟩ := hP
  have hx := Bd.exec
  have hby := Bd.bytes
  have hml : c.maxLocals = 5 := hml0
  have hown : s.vm.findClass "com/example/stowage/stowage/model/Names" = some m.cls := findClass_of_methodNamed Bd.named
  have hnm := (name_of_methodNamed Bd.named Bd.method).1
  have hlk : meth.locks = false := BodyLoose.notSynchronized Bd
  have hret := Bd.returns
  have X0 : Stand p l e ({ frames := 6, cells := 0, slots := 0, locals := 110 } : Room) s m #[(.ref a1), (.int p2)] below meth c s₁ [] 0 0 := Stand.of_body Bd
  have e0 : s₁.heap = h0 := by rw [← hhp, Bd.state]; rfl
  have N0 := Fr.nil n0
  show Done p e below s (Qrm12 Z a1 p2 vb kk vs mI nI cs sv xs h0 n0) ({ frames := 6, cells := 0, slots := 0, locals := 110 } : Room).cells ({ frames := 6, cells := 0, slots := 0, locals := 110 } : Room).slots (s₁.setTop (entryFrame m #[(.ref a1), (.int p2)] 5))
  refine Done.step (fun t k => castTop (ef_12 m a1 p2) k) ?_
  subst hp2
  show Aq s₁ 0 #[vr a1, vi 0, vu, vu, vu] []
  refine Done.step (fun t k => XS.iconst X0.here hx rfl (hb hby d12_0) k) ?_
  show Aq s₁ 1 #[vr a1, vi 0, vu, vu, vu] [(.int 0)]
  refine Done.step (fun t k => XS.istoreN X0.here hx rfl (hb hby d12_1) rfl (l' := #[vr a1, vi 0, vi 0, vu, vu]) rfl k) ?_
  show Aq s₁ 2 #[vr a1, vi 0, vi 0, vu, vu] []
  exact lpmo a1 vb kk vs mI nI cs sv xs (MO xs) hx hZ hw hby hml hown hlk hret hnm E1 F1 F2 A1 D Scs Ssx hsv Sad Shi Slo hcs (xs.length + 1)  s₁ _ (0 : Int32) .unset .unset 0 X0 N0 Z0 e0 (Or.inl rfl) (Or.inl rfl) (by omega) rfl (by omega) rfl
theorem d1_0 : dq cd23 0 (.aload_n 0) 1 := by decide +kernel
theorem d1_1 : dq cd23 1 (.invokevirtual 7) 3 := by decide +kernel
theorem d1_4 : dq cd23 4 (.ifCond .ne 24) 3 := by decide +kernel
theorem d1_7 : dq cd23 7 (.aload_n 0) 1 := by decide +kernel
theorem d1_8 : dq cd23 8 (.invokevirtual 13) 3 := by decide +kernel
theorem d1_11 : dq cd23 11 (.bipush 64) 2 := by decide +kernel
theorem d1_13 : dq cd23 13 (.if_icmp .gt 15) 3 := by decide +kernel
theorem d1_16 : dq cd23 16 (.aload_n 0) 1 := by decide +kernel
theorem d1_17 : dq cd23 17 (.iconst 0) 1 := by decide +kernel
theorem d1_18 : dq cd23 18 (.invokestatic 19) 3 := by decide +kernel
theorem d1_21 : dq cd23 21 (.ifCond .eq 7) 3 := by decide +kernel
theorem d1_24 : dq cd23 24 (.iconst 1) 1 := by decide +kernel
theorem d1_25 : dq cd23 25 (.goto 4) 3 := by decide +kernel
theorem d1_28 : dq cd23 28 (.iconst 0) 1 := by decide +kernel
theorem d1_29 : dq cd23 29 .ireturn 1 := by decide +kernel
theorem pn_1 : plainName "com/example/stowage/stowage/model/Names" = true := by first | (simp [plainName, overriddenIn]; done) | decide +kernel
theorem ef_1 (m : MethodId) (a1 : Addr) : entryFrame m #[(.ref a1)] 1 = mkF m 0 #[.val (.ref a1)] [] := by first | (simp [entryFrame, mkF, argsToLocals, Value.category]; done) | rfl
def Qrmin (Z : State) (a1 : Addr) (vb : Addr) (kk : Int32) (vs : List Value) (mI nI cs : Int32) (sv : Value) (xs : List Int32) (h0 : Heap) (n0 : Nat) : Option Value → Heap → List Loc → Prop := fun v h L => v = some (.int (if (64 : Int32) < nI then (0 : Int32) else if (MO xs) = (0 : Int32) then (0 : Int32) else (1 : Int32))) ∧ Fr n0 L ∧ h = h0
set_option maxRecDepth 65536 in
set_option maxHeartbeats 40000000 in
theorem rmin (l : Launch) (Z : State) (a0 : Array Value) (hw : HH a0 Z) (ws : List Jvm.Cond) (a1 : Addr) (vb : Addr) (kk : Int32) (vs : List Value) (mI nI cs : Int32) (sv : Value) (xs : List Int32) (h0 : Heap) (n0 : Nat) (Z0 : n0 ≤ h0.size) (E1 : Fl2 Z h0 a1) (F1 : Fl1 Z h0 a1 (.ref vb)) (F2 : Fl0 Z h0 a1 (.int kk)) (A1 : Ax Z h0 vb .byte vs) (D : StrD kk vs mI nI xs) (Scs : Sta Z h0 "java/lang/String" "COMPACT_STRINGS" "Z" (.int cs)) (Ssx : Sta Z h0 "jdk/internal/util/Preconditions" "SIOOBE_FORMATTER" "Ljava/util/function/BiFunction;" sv) (hsv : sv.isRef = true) (Sad : Sta Z h0 "java/lang/StringUTF16" "$assertionsDisabled" "Z" (.int 1)) (Shi : Sta Z h0 "java/lang/StringUTF16" "HI_BYTE_SHIFT" "I" (.int 0)) (Slo : Sta Z h0 "java/lang/StringUTF16" "LO_BYTE_SHIFT" "I" (.int 8)) (hcs : ¬ cs = (0 : Int32)) (hz : ¬ mI = (0 : Int32)) :
    MetFree l (⟨"com/example/stowage/stowage/model/Names", "isName", "(Ljava/lang/String;)Z"⟩ : MethodName) (head1 (Jvm.Cond.code (⟨"com/example/stowage/stowage/model/Names", "isName", "(Ljava/lang/String;)Z"⟩ : MethodName) prog_7_method_2_code 1 (some .boolean) :: ws) ({ frames := 7, cells := 0, slots := 0, locals := 126 } : Room)) (fun a U => a = #[(.ref a1)] ∧ Z.Warmed39 U.vm ∧ U.heap = h0) (fun _ _ _ _ _ => True) (fun _ U o U' => ∃ v L, o = .returned v ∧ Qrmin Z a1 vb kk vs mI nI cs sv xs h0 n0 v U'.heap L ∧ FrameEnd U o U' L ({ frames := 7, cells := 0, slots := 0, locals := 126 } : Room).cells ({ frames := 7, cells := 0, slots := 0, locals := 126 } : Room).slots) := by
  refine MetFree.of_bodySF (plainFor_of_name pn_1) hisR ?_
  intro p e s m args below meth c s₁ Bd hml0 hP hK
  obtain ⟨rfl, hZ, hhp⟩ := hP
  have hx := Bd.exec
  have hby := Bd.bytes
  have hml : c.maxLocals = 1 := hml0
  have hown : s.vm.findClass "com/example/stowage/stowage/model/Names" = some m.cls := findClass_of_methodNamed Bd.named
  have hnm := (name_of_methodNamed Bd.named Bd.method).1
  have hlk : meth.locks = false := BodyLoose.notSynchronized Bd
  have hret := Bd.returns
  have X0 : Stand p l e ({ frames := 7, cells := 0, slots := 0, locals := 126 } : Room) s m #[(.ref a1)] below meth c s₁ [] 0 0 := Stand.of_body Bd
  have e0 : s₁.heap = h0 := by rw [← hhp, Bd.state]; rfl
  have N0 := Fr.nil n0
  show Done p e below s (Qrmin Z a1 vb kk vs mI nI cs sv xs h0 n0) ({ frames := 7, cells := 0, slots := 0, locals := 126 } : Room).cells ({ frames := 7, cells := 0, slots := 0, locals := 126 } : Room).slots (s₁.setTop (entryFrame m #[(.ref a1)] 1))
  refine Done.step (fun t k => castTop (ef_1 m a1) k) ?_
  have hl := D.2.1
  show Aq s₁ 0 #[vr a1] []
  refine Done.step (fun t k => XS.aloadN X0.here hx rfl (hb hby d1_0) rfl rfl k) ?_
  show Aq s₁ 1 #[vr a1] [(.ref a1)]
  obtain ⟨cq101, kq101, q101a, q101b, q101c⟩ := isOf hZ e0 E1
  obtain ⟨v101, _, ⟨T101, L101, k101, n101⟩, -, X101, ⟨Lc101, hQ101, l101, y101, z101⟩, st101⟩ := X0.virtualBack hx (y := (⟨"java/lang/String", "isEmpty", "()Z"⟩ : MethodName)) (z := (⟨"java/lang/String", "isEmpty", "()Z"⟩ : MethodName)) hown (mvT hZ (tw14 hw)) (mvT hZ (tw15 hw)) (notFace_of_selects (args := #[]) (mvT hZ (tw17 hw))) (mvT hZ (tw17 hw)) (mvT hZ (tw16 hw)) (by decide) (backOf (W := 0) (rmemp l Z a0 hw [] a1 vb vs mI h0 n0 Z0 F1 A1 hl) hZ (tw18 hw) (tw3 hw) (by decide) (by decide)) q101a q101c (g := (mkF m 1 #[vr a1] [(.ref a1)])) rfl (by rw [hml]; rfl) (Steps.refl _) (argsL := []) (rest := []) (lenOf pd_5 rfl) rfl (by show 2 * 0 + _ ≤ _; exact Nat.le_of_eq rfl) (hb hby d1_1) (fun _ _ => ⟨rfl, e0, (by decide : 0 + 0 ≤ _), (by decide : 0 + 0 ≤ _)⟩)
  dsimp only [Pt.U, Pt.locs, Pt.cells, Pt.slots] at X101 l101 y101 z101 st101 hQ101
  subst l101 y101 z101
  refine Done.far st101 ?_
  obtain ⟨rfl, N101q, e101⟩ := hQ101
  have N101 := Fr.app N0 N101q
  show Aq T101 4 #[vr a1] [(.int (if mI = (0 : Int32) then (1 : Int32) else (0 : Int32)))]
  refine Done.step (fun t k => XS.ifNo X101.here hx rfl (hb hby d1_4) rfl ((if0 _ _).trans (teq (if_neg hz)).2) k) ?_
  show Aq T101 7 #[vr a1] []
  refine Done.step (fun t k => XS.aloadN X101.here hx rfl (hb hby d1_7) rfl rfl k) ?_
  show Aq T101 8 #[vr a1] [(.ref a1)]
  obtain ⟨cq102, kq102, q102a, q102b, q102c⟩ := isOf hZ e101 E1
  obtain ⟨v102, _, ⟨T102, L102, k102, n102⟩, -, X102, ⟨Lc102, hQ102, l102, y102, z102⟩, st102⟩ := X101.virtualBack hx (y := (⟨"java/lang/String", "length", "()I"⟩ : MethodName)) (z := (⟨"java/lang/String", "length", "()I"⟩ : MethodName)) hown (mvT hZ (tw48 hw)) (mvT hZ (tw49 hw)) (notFace_of_selects (args := #[]) (mvT hZ (tw51 hw))) (mvT hZ (tw51 hw)) (mvT hZ (tw50 hw)) (by decide) (backOf (W := 0) (rmlen l Z a0 hw [] a1 vb kk vs mI cs nI h0 n0 Z0 E1 F1 F2 A1 D.2.1 Scs hcs D.1 D.2.2.1) hZ (tw52 hw) (tw3 hw) (by decide) (by decide)) q102a q102c (g := (mkF m 8 #[vr a1] [(.ref a1)])) rfl (by rw [hml]; rfl) (Steps.refl _) (argsL := []) (rest := []) (lenOf pd_14 rfl) rfl (by show 2 * 0 + _ ≤ _; exact Nat.le_of_eq rfl) (hb hby d1_8) (fun _ _ => ⟨rfl, e101, (by decide : 0 + 0 ≤ _), (by decide : 0 + 0 ≤ _)⟩)
  dsimp only [Pt.U, Pt.locs, Pt.cells, Pt.slots] at X102 l102 y102 z102 st102 hQ102
  subst l102 y102 z102
  refine Done.far st102 ?_
  obtain ⟨rfl, N102q, e102⟩ := hQ102
  have N102 := Fr.app N101 N102q
  show Aq T102 11 #[vr a1] [(.int nI)]
  refine Done.step (fun t k => XS.bipush X102.here hx rfl (hb hby d1_11) k) ?_
  show Aq T102 13 #[vr a1] [(.int 64), (.int nI)]
  by_cases c1 : (64 : Int32) < nI
  · refine Done.step (fun t k => XS.icmpYes X102.here hx rfl (pc0 := 13) (pc' := 28) rfl (hb hby d1_13) rfl (tlt c1).2.2.1 (by decide) (by decide) k) ?_
    show Aq T102 28 #[vr a1] []
    refine Done.step (fun t k => XS.iconst X102.here hx rfl (hb hby d1_28) k) ?_
    show Aq T102 29 #[vr a1] [(.int 0)]
    exact Done.narr X102 hx hlk hret (by simp) (hb hby d1_29) (by decide) (by decide) ⟨by rw [if_pos c1]; rfl, N102, e102⟩
  · refine Done.step (fun t k => XS.icmpNo X102.here hx rfl (hb hby d1_13) rfl (flt c1).2.2.1 k) ?_
    show Aq T102 16 #[vr a1] []
    refine Done.step (fun t k => XS.aloadN X102.here hx rfl (hb hby d1_16) rfl rfl k) ?_
    show Aq T102 17 #[vr a1] [(.ref a1)]
    refine Done.step (fun t k => XS.iconst X102.here hx rfl (hb hby d1_17) k) ?_
    show Aq T102 18 #[vr a1] [(.int 0), (.ref a1)]
    obtain ⟨v103, _, ⟨T103, L103, k103, n103⟩, -, X103, ⟨Lc103, hQ103, l103, y103, z103⟩, st103⟩ := Jvm.LawKit.callS X102 hx (y := (⟨"com/example/stowage/stowage/model/Names", "madeOf", "(Ljava/lang/String;Z)Z"⟩ : MethodName)) hown (mvT hZ (tw58 hw)) (mvT hZ (tw59 hw)) (mvT hZ (tw12 hw)) (mvT hZ (tw60 hw)) (by decide) (backOf (W := 0) (rm12 l Z a0 hw [] a1 (0 : Int32) vb kk vs mI nI cs sv xs h0 n0 Z0 E1 F1 F2 A1 D Scs Ssx hsv Sad Shi Slo hcs rfl) hZ (tw60 hw) (tw12 hw) (by decide) (by decide)) (g := (mkF m 18 #[vr a1] [(.int 0), (.ref a1)])) rfl (by rw [hml]; rfl) (argsL := [(.ref a1), (.int 0)]) (rest := []) (lenOf pd_16 rfl) rfl (by show 2 * 0 + _ ≤ _; exact Nat.le_of_eq rfl) (hb hby d1_18) (fun _ _ => ⟨rfl, e102, (by decide : 0 + 0 ≤ _), (by decide : 0 + 0 ≤ _)⟩)
    dsimp only [Pt.U, Pt.locs, Pt.cells, Pt.slots] at X103 l103 y103 z103 st103 hQ103
    subst l103 y103 z103
    refine Done.step st103 ?_
    obtain ⟨rfl, N103q, e103⟩ := hQ103
    have N103 := Fr.app N102 N103q
    show Aq T103 21 #[vr a1] [(.int (MO xs))]
    by_cases c2 : (MO xs) = (0 : Int32)
    · refine Done.step (fun t k => XS.ifYes X103.here hx rfl (pc0 := 21) (pc' := 28) rfl (hb hby d1_21) rfl ((if0 _ _).trans (teq c2).1) (by decide) (by decide) k) ?_
      show Aq T103 28 #[vr a1] []
      refine Done.step (fun t k => XS.iconst X103.here hx rfl (hb hby d1_28) k) ?_
      show Aq T103 29 #[vr a1] [(.int 0)]
      exact Done.narr X103 hx hlk hret (by simp) (hb hby d1_29) (by decide) (by decide) ⟨by rw [if_neg c1, if_pos c2]; rfl, N103, e103⟩
    · refine Done.step (fun t k => XS.ifNo X103.here hx rfl (hb hby d1_21) rfl ((if0 _ _).trans (feq c2).1) k) ?_
      show Aq T103 24 #[vr a1] []
      refine Done.step (fun t k => XS.iconst X103.here hx rfl (hb hby d1_24) k) ?_
      show Aq T103 25 #[vr a1] [(.int 1)]
      refine Done.step (fun t k => XS.goto X103.here hx rfl (pc0 := 25) (pc' := 29) rfl (hb hby d1_25) (by decide) (by decide) k) ?_
      show Aq T103 29 #[vr a1] [(.int 1)]
      exact Done.narr X103 hx hlk hret (by simp) (hb hby d1_29) (by decide) (by decide) ⟨by rw [if_neg c1, if_neg c2]; rfl, N103, e103⟩
def Qrmin0 (Z : State) (a1 : Addr) (vb : Addr) (vs : List Value) (mI : Int32) (h0 : Heap) (n0 : Nat) : Option Value → Heap → List Loc → Prop := fun v h L => v = some (.int 0) ∧ Fr n0 L ∧ h = h0
set_option maxRecDepth 65536 in
set_option maxHeartbeats 40000000 in
theorem rmin0 (l : Launch) (Z : State) (a0 : Array Value) (hw : HH a0 Z) (ws : List Jvm.Cond) (a1 : Addr) (vb : Addr) (vs : List Value) (mI : Int32) (h0 : Heap) (n0 : Nat) (Z0 : n0 ≤ h0.size) (E1 : Fl2 Z h0 a1) (F1 : Fl1 Z h0 a1 (.ref vb)) (A1 : Ax Z h0 vb .byte vs) (hl : vs.length.toInt32 = mI) (hz : mI = (0 : Int32)) :
    MetFree l (⟨"com/example/stowage/stowage/model/Names", "isName", "(Ljava/lang/String;)Z"⟩ : MethodName) (head1 (Jvm.Cond.code (⟨"com/example/stowage/stowage/model/Names", "isName", "(Ljava/lang/String;)Z"⟩ : MethodName) prog_7_method_2_code 1 (some .boolean) :: ws) ({ frames := 1, cells := 0, slots := 0, locals := 12 } : Room)) (fun a U => a = #[(.ref a1)] ∧ Z.Warmed39 U.vm ∧ U.heap = h0) (fun _ _ _ _ _ => True) (fun _ U o U' => ∃ v L, o = .returned v ∧ Qrmin0 Z a1 vb vs mI h0 n0 v U'.heap L ∧ FrameEnd U o U' L ({ frames := 1, cells := 0, slots := 0, locals := 12 } : Room).cells ({ frames := 1, cells := 0, slots := 0, locals := 12 } : Room).slots) := by
  refine MetFree.of_bodySF (plainFor_of_name pn_1) hisR ?_
  intro p e s m args below meth c s₁ Bd hml0 hP hK
  obtain ⟨rfl, hZ, hhp⟩ := hP
  have hx := Bd.exec
  have hby := Bd.bytes
  have hml : c.maxLocals = 1 := hml0
  have hown : s.vm.findClass "com/example/stowage/stowage/model/Names" = some m.cls := findClass_of_methodNamed Bd.named
  have hnm := (name_of_methodNamed Bd.named Bd.method).1
  have hlk : meth.locks = false := BodyLoose.notSynchronized Bd
  have hret := Bd.returns
  have X0 : Stand p l e ({ frames := 1, cells := 0, slots := 0, locals := 12 } : Room) s m #[(.ref a1)] below meth c s₁ [] 0 0 := Stand.of_body Bd
  have e0 : s₁.heap = h0 := by rw [← hhp, Bd.state]; rfl
  have N0 := Fr.nil n0
  show Done p e below s (Qrmin0 Z a1 vb vs mI h0 n0) ({ frames := 1, cells := 0, slots := 0, locals := 12 } : Room).cells ({ frames := 1, cells := 0, slots := 0, locals := 12 } : Room).slots (s₁.setTop (entryFrame m #[(.ref a1)] 1))
  refine Done.step (fun t k => castTop (ef_1 m a1) k) ?_
  show Aq s₁ 0 #[vr a1] []
  refine Done.step (fun t k => XS.aloadN X0.here hx rfl (hb hby d1_0) rfl rfl k) ?_
  show Aq s₁ 1 #[vr a1] [(.ref a1)]
  obtain ⟨cq101, kq101, q101a, q101b, q101c⟩ := isOf hZ e0 E1
  obtain ⟨v101, _, ⟨T101, L101, k101, n101⟩, -, X101, ⟨Lc101, hQ101, l101, y101, z101⟩, st101⟩ := X0.virtualBack hx (y := (⟨"java/lang/String", "isEmpty", "()Z"⟩ : MethodName)) (z := (⟨"java/lang/String", "isEmpty", "()Z"⟩ : MethodName)) hown (mvT hZ (tw14 hw)) (mvT hZ (tw15 hw)) (notFace_of_selects (args := #[]) (mvT hZ (tw17 hw))) (mvT hZ (tw17 hw)) (mvT hZ (tw16 hw)) (by decide) (backOf (W := 0) (rmemp l Z a0 hw [] a1 vb vs mI h0 n0 Z0 F1 A1 hl) hZ (tw18 hw) (tw3 hw) (by decide) (by decide)) q101a q101c (g := (mkF m 1 #[vr a1] [(.ref a1)])) rfl (by rw [hml]; rfl) (Steps.refl _) (argsL := []) (rest := []) (lenOf pd_5 rfl) rfl (by show 2 * 0 + _ ≤ _; exact Nat.le_of_eq rfl) (hb hby d1_1) (fun _ _ => ⟨rfl, e0, (by decide : 0 + 0 ≤ _), (by decide : 0 + 0 ≤ _)⟩)
  dsimp only [Pt.U, Pt.locs, Pt.cells, Pt.slots] at X101 l101 y101 z101 st101 hQ101
  subst l101 y101 z101
  refine Done.far st101 ?_
  obtain ⟨rfl, N101q, e101⟩ := hQ101
  have N101 := Fr.app N0 N101q
  show Aq T101 4 #[vr a1] [(.int (if mI = (0 : Int32) then (1 : Int32) else (0 : Int32)))]
  refine Done.step (fun t k => XS.ifYes X101.here hx rfl (pc0 := 4) (pc' := 28) rfl (hb hby d1_4) rfl ((if0 _ _).trans (feq (show ¬ ((if mI = (0 : Int32) then (1 : Int32) else (0 : Int32)) = (0 : Int32)) from (by rw [if_pos hz]; decide))).2) (by decide) (by decide) k) ?_
  show Aq T101 28 #[vr a1] []
  refine Done.step (fun t k => XS.iconst X101.here hx rfl (hb hby d1_28) k) ?_
  show Aq T101 29 #[vr a1] [(.int 0)]
  exact Done.narr X101 hx hlk hret (by simp) (hb hby d1_29) (by decide) (by decide) ⟨rfl, N101, e101⟩
/-- as Done, where a String constant may have been interned meanwhile -/
def DoneW (p : Program) (e : Env) (below : List Frame) (s : State) (Q : Option Value → Heap → List Loc → Prop) (C S : Nat) (U : State) : Prop :=
  ∃ s₂ o, Steps p.tables e below U s₂ ∧ s₂.status = .running ∧ Ended s₂ below o ∧ ∃ v L, o = .returned v ∧ Q v s₂.heap L ∧ ReturnedEndW s o s₂ L C S
theorem DoneW.step {p : Program} {e : Env} {s U U' : State} {below : List Frame} {C S : Nat} {Q : Option Value → Heap → List Loc → Prop} (h : ∀ t, Steps p.tables e below U' t → Steps p.tables e below U t) (d : DoneW p e below s Q C S U') : DoneW p e below s Q C S U := by
  obtain ⟨s₂, o, h1, r⟩ := d
  exact ⟨s₂, o, h _ h1, r⟩
theorem DoneW.far {p : Program} {e : Env} {s U U' : State} {below : List Frame} {C S : Nat} {Q : Option Value → Heap → List Loc → Prop} (h : Steps p.tables e below U U') (d : DoneW p e below s Q C S U') : DoneW p e below s Q C S U := by
  obtain ⟨s₂, o, h1, r⟩ := d
  exact ⟨s₂, o, h.trans h1, r⟩
def Sz (k : Nat) (h : Heap) : Prop := k ≤ h.size
theorem Sz.ext {k : Nat} {h h' : Heap} (S : Sz k h) (E : Ext h h') : Sz k h' := Nat.le_trans S E.1
theorem Sz.keep {k : Nat} {h h' : Heap} {ws : List Addr} (S : Sz k h) (K : Keep h h' ws) : Sz k h' := Nat.le_trans S K.1
theorem Sz.wr {k : Nat} {h h' : Heap} {a : Addr} {sl : Nat} {v : Value} (S : Sz k h) (W : Wr h h' a sl v) : Sz k h' := Nat.le_trans S (Keep.of_wr W).1
theorem DoneW.narr {p : Program} {l : Launch} {e : Env} {R : Room} {s : State} {m : MethodId} {args : Array Value} {below : List Frame} {meth : Method} {c : Code} {T : State} {locs : List Loc} {cells slots C S : Nat} {Q : Option Value → Heap → List Loc → Prop} {vm₁ : Vm} {h : Heap}
    (X : Stand p l e R (s.setVm vm₁) m args below meth c T locs cells slots) {k : Nat} (hS : s.Since vm₁ k) (eT : T.heap = h) (hn : Sz k h) (hx : p.tables.exec = Jvm.exec) (hlk : meth.locks = false) {t : FieldType} (hret : meth.sig.returnType = some t) (ht : t = .boolean ∨ t = .byte ∨ t = .char ∨ t = .short) {pc : Nat} {Ls : Array Slot} {z : Int32} {rest : List Value} (hd : decode c.code pc = .ok (.ireturn, 1)) (hc : cells ≤ C) (hs : slots ≤ S)
    (hq : Q (some (.int (nar t z))) T.heap locs) : DoneW p e below s Q C S (T.setTop (mkF m pc Ls (.int z :: rest))) := by
  subst eT
  obtain ⟨fs, hr, hrun, hended, hW⟩ := X.leaveW hS hn (v := some (.int (nar t z))) (fun h => by rw [hret] at h; cases h)
  exact ⟨_, _, retN X hx hret ht hd hr, hrun, hended, _, _, rfl, hq, hW.1, hW.2.1, hW.2.2.1, hW.2.2.2.mono hc hs⟩
theorem own_back {Z W : State} (hal : Z.vm.Alike W.vm) {c : ClassId} {k' : Class} (h : W.vm.classes[c]? = some k') : ∃ k, Z.vm.classes[c]? = some k ∧ k.kind = k'.kind ∧ k.instanceTypes = k'.instanceTypes := by
  have hl : c < Z.vm.classes.size := by have := (Array.getElem?_eq_some_iff.mp h).1; rw [hal.2.1] at this; exact this
  obtain ⟨k2, h2, e⟩ := hal.2.2 c _ (Array.getElem?_eq_getElem hl)
  cases h.symm.trans h2
  exact ⟨_, Array.getElem?_eq_getElem hl, by rw [e], by rw [e]⟩
theorem own_held {args : Array Value} {s : State} {own : String} {index : Nat} (h : Jvm.Lit.constHeld s own index) (hlink : (Cond.stringLink own index "").before args s = true) (hcw : Jvm.Lit.compactW.before #[] s = true)
    (hv : (Cond.laysFinal "java/lang/String" "java/lang/String" "value" "[B").before args s = true) (harr : (Cond.arrayClass .byte).before args s = true) (hins : (Cond.instantiable "java/lang/String" 4).before args s = true) : ConstHeldL s own index := by
  intro c k cf i units a hc hk hcf hp hu hor
  obtain ⟨k', cf', i', units', hk', hcf', hp', hu', -, htext, -⟩ := Cond.stringLink_spec hc hlink
  cases hk.symm.trans hk'
  cases hcf.symm.trans hcf'
  cases hp.symm.trans hp'
  cases hu.symm.trans hu'
  have hl := Jvm.ClassFile.lat_of_text htext (by decide)
  have hun : units.toList = [] := (Jvm.ClassFile.units_of_text htext (by decide)).trans (by decide)
  have hu0 : units = #[] := by cases units; simp_all
  obtain ⟨h1, h2⟩ := h c k cf i units a hc hk hcf hp hu hl hcw hor
  subst hu0
  have W := fun w hm => List.all_eq_true.mp h2 w hm
  have w1 : (Cond.exactly (.arg 0) "java/lang/String").before #[.ref a] s = true := W _ (by simp [Jvm.Lit.latin1L])
  have w2 : (Cond.eq Jvm.Lit.C0 (.int 0)).before #[.ref a] s = true := W _ (by simp [Jvm.Lit.latin1L])
  have w3 : (Cond.exactly Jvm.Lit.V0 "[B").before #[.ref a] s = true := W _ (by simp [Jvm.Lit.latin1L])
  have w4 : (Cond.eq (.length Jvm.Lit.V0) (.int (Int32.ofNat 0))).before #[.ref a] s = true := W _ (by simp [Jvm.Lit.latin1L])
  have hlen := Cond.eq_int w4 rfl
  have hcod := Cond.eq_int w2 rfl
  obtain ⟨sd, SA, hev, harrAt, -⟩ := Term.length_spec hlen
  have h31 := Jvm.Free.SBG.length_lt hev harrAt hlen
  have hsz : SA.slots.size = 0 := by
    have e := len_f hev harrAt h31
    have h2 := Option.some.inj (e.symm.trans hlen)
    have h3 : SA.slots.size.toInt32 = Int32.ofNat 0 := by simpa using h2
    have := congrArg Int32.toInt h3
    rw [show (SA.slots.size.toInt32).toInt = SA.slots.size from Int32.toInt_ofNat_of_lt (by omega)] at this
    have e0 : (Int32.ofNat 0).toInt = 0 := rfl
    omega
  have ha : (Term.arg 0).eval #[.ref a] s none [] s = some (.ref a) := rfl
  have F1 : Fld s s.heap a "java/lang/String" "value" "[B" (.ref sd) := Fld.start (by rw [← fld_at ha]; exact hev)
  have F2 : Fld s s.heap a "java/lang/String" "coder" "B" (.int 0) := Fld.start (by rw [← fld_at ha]; exact hcod)
  obtain ⟨a', cE, cellE, kE, hevE, hfcE, hcellE, hkE, hstE, hclsE, hordE⟩ := Cond.exactly_spec w1
  obtain rfl : a = a' := by have h : (some (Value.ref a) : Option Value) = some (.ref a') := hevE; injection h with h; injection h with h
  obtain ⟨cI, kI, hfI, hkI, hkindI, -⟩ := Cond.instantiable_spec hins
  cases hfcE.symm.trans hfI
  cases hkE.symm.trans hkI
  obtain ⟨sd', cB, SA', kB, hevB, hfcB, hcellB, -, -, hclsB, -⟩ := Cond.exactly_spec w3
  cases hev.symm.trans hevB
  obtain ⟨hcellSA, hunk, hnst, -⟩ := State.arrayAt?_spec harrAt
  cases hcellSA.symm.trans hcellB
  obtain ⟨cA, kA, comp, hfA, hkA, hkindA⟩ := Cond.arrayClass_spec harr
  have hcA : cA = SA.cls := by
    have : s.vm.findClass "[B" = some cA := hfA
    rw [hfcB] at this; rw [hclsB]; exact (Option.some.inj this).symm
  subst hcA
  obtain ⟨c1, cf1, k1, i1, f1, g1, g2, g3, g4, g5, g6, g7⟩ := F1
  obtain ⟨c2, cf2, k2, i2, f2, e1, e2, e3, e4, e5, e6, e7⟩ := F2
  cases g1.symm.trans hcellE
  cases e1.symm.trans hcellE
  have hne : a ≠ sd := fun q => by
    subst q
    cases hcellE.symm.trans hcellSA
    rw [hclsE] at hkA
    cases hkE.symm.trans hkA
    rw [hkindI] at hkindA; cases hkindA
  refine ⟨(a, cellE, f1, f2, sd, SA, 0), _, rfl, ⟨⟨hcellE, g4, hstE, ⟨cf1, k1, i1, g2, g6⟩, ⟨cf2, k2, i2, e2, e6⟩, g3, e3, g7, e7, hcellSA, ⟨(fun k q => by rw [q] at hnst; cases hnst), kA, hkA, comp, hkindA⟩, hunk, hsz, (show (0 : Nat) < 2 ^ 31 by decide), hne, (fun j hj => by rw [hsz] at hj; exact absurd hj (Nat.not_lt_zero j))⟩, hfcE, hclsE⟩, ⟨kE, hkE, hkindI, hordE hkindI⟩, by rw [hclsB]; exact hfcB, ?_⟩
  show SA.slots = stringBytes #[]
  exact (Array.size_eq_zero_iff.mp hsz).trans (by simp [stringBytes])
theorem own_sl {Z W : State} {a0 : Array Value} (hal : Z.vm.Alike W.vm) (hv : (Cond.laysFinal "java/lang/String" "java/lang/String" "value" "[B").before a0 Z = true) {lo hi : Nat} {a : Addr} {units : Array UInt16} (h : SlIn lo hi W a units) (hu : units.toList = []) :
    ∃ vb : Addr, Fl2 Z W.heap a ∧ Fl1 Z W.heap a (.ref vb) ∧ Ax Z W.heap vb .byte [] := by
  obtain ⟨q, cS, rfl, ⟨⟨h1, h2, h3, ⟨cv, kv, iv, hfv, hav⟩, -, h6, -, h8, -, h10, h11, h12, h13, -, -, -⟩, hS2, hS3⟩, ⟨kS, hk1, hk2, hk3⟩, -, hsl, -⟩ := h
  have hu0 : units = #[] := by cases units; simp_all
  subst hu0
  obtain ⟨k, b1, b2, b3⟩ := own_back hal hk1
  obtain ⟨hns, kA, hkA, comp, hkindA⟩ := h11
  obtain ⟨kB, c1, c2, c3⟩ := own_back hal hkA
  obtain ⟨c, k', cf, kf, i, f, a1, -, a3, a4, a5, -⟩ := Laid.spec (a0 := a0) (Or.inr hv)
  obtain ⟨cw, kw, iw, hw⟩ := Jvm.Free.SBG.found_only hal ⟨cf, kf, i, a3⟩
  cases hw.symm.trans hfv
  have hfc : Z.vm.findClass "java/lang/String" = some q.sC.cls := by rw [hS3, ← hS2, hal.findClass]; rfl
  cases a1.symm.trans hfc
  subst hS3
  exact ⟨q.sd, ⟨q.sC, k, h1, hfc, b1, h3, fun _ => by rw [b3]; exact hk3⟩, ⟨q.sC, cf, kf, i, _, h1, a3, a4, h2, h3, a5, h8⟩, q.SA, ⟨h10, ⟨hns, kB, c1, comp, by rw [c2]; exact hkindA⟩, h12⟩, by rw [hsl]; simp [stringBytes]⟩
theorem own_mo01 : ∀ xs : List Int32, MO xs = (0 : Int32) ∨ MO xs = (1 : Int32)
  | [] => Or.inr rfl
  | x :: t => by
    rw [MO]
    by_cases q : F9 x = (1 : Int32)
    · rw [if_pos q]; exact own_mo01 t
    · rw [if_neg q]; exact Or.inl rfl
theorem own_in {nI : Int32} {xs : List Int32} (h : nI.toInt = (xs.length : Int)) (hl : xs.length ≤ 64) : (if (64 : Int32) < nI then (0 : Int32) else if (MO xs) = (0 : Int32) then (0 : Int32) else (1 : Int32)) = MO xs := by
  rw [if_neg (by rw [Int32.lt_iff_toInt_lt]; show ¬ (64 : Int) < _; omega)]
  rcases own_mo01 xs with q | q <;> rw [q] <;> decide
theorem own_in65 {nI : Int32} {xs : List Int32} (h : nI.toInt = (xs.length : Int)) (hl : xs.length = 65) : (if (64 : Int32) < nI then (0 : Int32) else if (MO xs) = (0 : Int32) then (0 : Int32) else (1 : Int32)) = (0 : Int32) := by
  rw [if_pos (by rw [Int32.lt_iff_toInt_lt]; show (64 : Int) < _; omega)]
theorem own_mo1 (x : Int32) : MO [x] = F9 x := by
  by_cases q : F9 x = (0 : Int32)
  · rw [q]; exact own_moF [x] x (by simp) q
  · rw [own_ok01 q]; exact own_moT [x] (by simpa using q)
theorem own_mz {kk : Int32} {vs : List Value} {mI nI : Int32} {xs : List Int32} (D : StrD kk vs mI nI xs) (h : 0 < xs.length) : ¬ mI = (0 : Int32) := by
  intro q
  obtain ⟨-, -, hn, hni, -, -, hd⟩ := D
  subst q
  have e : nI = (0 : Int32) := by rw [← hn]; rcases hd with ⟨rfl, -, -⟩ | ⟨rfl, -⟩ <;> decide
  rw [e] at hni
  have e0 : (0 : Int32).toInt = 0 := rfl
  omega
theorem own_ch {p x : Int32} (h : (p &&& (65535 : Int32)).toUInt32.toUInt16.toUInt32.toInt32 = x) : 0 ≤ x.toInt ∧ x.toInt < 65536 := by rw [← h]; exact (c_i2c _).2
def RR (n k : Nat) (d : Int32) : List Int32 := List.replicate k d ++ List.replicate (n - k) (0 : Int32)
theorem RR.len {n k : Nat} {d : Int32} (h : k ≤ n) : (RR n k d).length = n := by rw [RR, List.length_append, List.length_replicate, List.length_replicate]; omega
theorem own_setI : ∀ (A : List Int32) (x z : Int32) (r : List Int32), (A ++ z :: r).set A.length x = A ++ x :: r
  | [], _, _, _ => rfl
  | a :: t, x, z, r => by simp only [List.cons_append, List.length_cons, List.set_cons_succ]; rw [own_setI t]
theorem own_rr {n k : Nat} {d : Int32} (hk : k < n) (hd : nar .char d = d) : ((RR n k d).map Value.int).set k (.int (nar .char d)) = (RR n (k + 1) d).map Value.int := by
  rw [hd, ← List.map_set]
  congr 1
  unfold RR
  rw [show n - k = (n - (k + 1)) + 1 by omega, List.replicate_succ, List.replicate_succ']
  have q := own_setI (List.replicate k d) d 0 (List.replicate (n - (k + 1)) 0)
  rw [List.length_replicate] at q
  rw [q, List.append_assoc]; rfl
def TT (n pp : Nat) (d a b c : Int32) : List Int32 := (((RR n n d).set 0 a).set pp b).set (n - 1) c
theorem TT.len (n pp : Nat) (d a b c : Int32) : (TT n pp d a b c).length = n := by rw [TT, List.length_set, List.length_set, List.length_set, RR.len (Nat.le_refl _)]
theorem TT.mem {n pp : Nat} {d a b c x : Int32} (h : x ∈ TT n pp d a b c) : x = d ∨ x = a ∨ x = b ∨ x = c := by
  rcases List.mem_or_eq_of_mem_set h with h | h
  · rcases List.mem_or_eq_of_mem_set h with h | h
    · rcases List.mem_or_eq_of_mem_set h with h | h
      · rw [RR, Nat.sub_self, List.replicate_zero, List.append_nil] at h
        exact Or.inl (List.eq_of_mem_replicate h)
      · exact Or.inr (Or.inl h)
    · exact Or.inr (Or.inr (Or.inl h))
  · exact Or.inr (Or.inr (Or.inr h))
theorem TT.ch {n pp : Nat} {d a b c : Int32} (hd : 0 ≤ d.toInt ∧ d.toInt < 65536) (ha : 0 ≤ a.toInt ∧ a.toInt < 65536) (hb : 0 ≤ b.toInt ∧ b.toInt < 65536) (hc : 0 ≤ c.toInt ∧ c.toInt < 65536) : ∀ x ∈ TT n pp d a b c, 0 ≤ x.toInt ∧ x.toInt < 65536 := by
  intro x hx
  rcases TT.mem hx with rfl | rfl | rfl | rfl <;> assumption
theorem TT.at {n pp : Nat} {d a b c : Int32} {j : Nat} (h0 : j ≠ 0) (h1 : j ≠ pp) (h2 : j ≠ n - 1) (hj : j < n) : (TT n pp d a b c)[j]? = some d := by
  rw [TT, List.getElem?_set_ne (Ne.symm h2), List.getElem?_set_ne (Ne.symm h1), List.getElem?_set_ne (Ne.symm h0), RR, Nat.sub_self, List.replicate_zero, List.append_nil, List.getElem?_replicate, if_pos hj]
theorem TT.d {n pp : Nat} {d a b c : Int32} (hn : 4 ≤ n) : d ∈ TT n pp d a b c := by
  by_cases q : pp = 1
  · exact List.mem_of_getElem? (TT.at (j := 2) (by decide) (by omega) (by omega) (by omega))
  · exact List.mem_of_getElem? (TT.at (j := 1) (by decide) (Ne.symm q) (by omega) (by omega))
theorem TT.all {n pp : Nat} {d a b c y0 y1 y2 : Int32} (hd : ¬ F9 d = (0 : Int32)) (k0 : ¬ F9 y0 = (0 : Int32)) (k1 : ¬ F9 y1 = (0 : Int32)) (k2 : ¬ F9 y2 = (0 : Int32)) (h0 : (TT n pp d a b c)[0]? = some y0) (h1 : (TT n pp d a b c)[pp]? = some y1) (h2 : (TT n pp d a b c)[n - 1]? = some y2) : MO (TT n pp d a b c) = (1 : Int32) := by
  refine own_moT _ fun x hx => ?_
  obtain ⟨j, hj⟩ := List.mem_iff_getElem?.mp hx
  have hl := (List.getElem?_eq_some_iff.mp hj).1
  rw [TT.len] at hl
  by_cases q0 : j = 0
  · subst q0; rw [h0] at hj; cases hj; exact k0
  · by_cases q1 : j = pp
    · subst q1; rw [h1] at hj; cases hj; exact k1
    · by_cases q2 : j = n - 1
      · subst q2; rw [h2] at hj; cases hj; exact k2
      · rw [TT.at q0 q1 q2 hl] at hj; cases hj; exact hd
theorem own_pp {p x m : Int32} (n : Nat) (h : ((p.toUInt32 >>> ((3 : Int32) &&& 31).toUInt32).toInt32 % m) = x) (hm : m.toInt = (n : Int)) (h0 : 0 < n) : ∃ pp : Nat, x.toInt = (pp : Int) ∧ pp < n := by
  have a := c_iushr p (3 : Int32) 3 (by decide) (by decide)
  have r := rng32 p
  have b := (c_irem ((p.toUInt32 >>> ((3 : Int32) &&& 31).toUInt32).toInt32) m (n : Int) hm).1 (by omega)
  rw [h] at b
  have b1 := Int.emod_nonneg ((p.toUInt32 >>> ((3 : Int32) &&& 31).toUInt32).toInt32).toInt (b := (n : Int)) (by omega)
  have b2 := Int.emod_lt_of_pos ((p.toUInt32 >>> ((3 : Int32) &&& 31).toUInt32).toInt32).toInt (b := (n : Int)) (by omega)
  exact ⟨x.toInt.toNat, by omega, by omega⟩
set_option maxRecDepth 65536 in
set_option maxHeartbeats 40000000 in
theorem blk1130 {p : Program} {l : Launch} {e : Env} {s : State} {m : MethodId} {args : Array Value} {below : List Frame} {meth : Method} {c : Code} {T : State} {locs : List Loc} {Z : State} {a0 : Array Value} {h0 : Heap} {n0 : Nat} (p1 p2 p3 p4 p5 x5 x6 x7 x8 x9 : Int32) (a10 : Addr) (x11 : Int32) (s12 s13 : Slot) (vb : Addr) (kk : Int32) (vs : List Value) (mI nI cs : Int32) (sv : Value) (xs : List Int32)
    (X0 : Stand p l e room_1 s m args below meth c T locs 12 700) (hx : p.tables.exec = Jvm.exec) (hZ : Z.Warmed39 s.vm) (hw : HH a0 Z) (hby : c.code = code) (hml : c.maxLocals = 14) (hown : s.vm.findClass "com/example/stowage/stowage/model/NamesIsNamePinLaw" = some m.cls) (hlk : meth.locks = false) (hret : meth.sig.returnType = ret) (hnm : meth.name = "law") (N0 : Fr n0 locs) (Z0 : n0 ≤ h0.size) (e0 : T.heap = h0) (E1 : Fl2 Z h0 a10) (F1 : Fl1 Z h0 a10 (.ref vb)) (F2 : Fl0 Z h0 a10 (.int kk)) (A1 : Ax Z h0 vb .byte vs) (D : StrD kk vs mI nI xs) (Scs : Sta Z h0 "java/lang/String" "COMPACT_STRINGS" "Z" (.int cs)) (Ssx : Sta Z h0 "jdk/internal/util/Preconditions" "SIOOBE_FORMATTER" "Ljava/util/function/BiFunction;" sv) (hsv : sv.isRef = true) (Sad : Sta Z h0 "java/lang/StringUTF16" "$assertionsDisabled" "Z" (.int 1)) (Shi : Sta Z h0 "java/lang/StringUTF16" "HI_BYTE_SHIFT" "I" (.int 0)) (Slo : Sta Z h0 "java/lang/StringUTF16" "LO_BYTE_SHIFT" "I" (.int 8)) (hcs : ¬ cs = (0 : Int32)) (hz : ¬ mI = (0 : Int32)) (hexp : (if (64 : Int32) < nI then (0 : Int32) else if (MO xs) = (0 : Int32) then (0 : Int32) else (1 : Int32)) = x11) :
    DoneW p e below s (fun v h L => v = some (.int 1) ∧ Fr n0 L) room_1.cells room_1.slots (T.setTop (mkF m 1130 #[vi p1, vi p2, vi p3, vi p4, vi p5, vi x5, vi x6, vi x7, vi x8, vi x9, vr a10, vi x11, s12, s13] [])) := by
  show DoneW p e below s _ _ _ (T.setTop (mkF m 1130 #[vi p1, vi p2, vi p3, vi p4, vi p5, vi x5, vi x6, vi x7, vi x8, vi x9, vr a10, vi x11, s12, s13] []))
  refine DoneW.step (fun t k => XS.aload X0.here hx rfl (hb hby at_1130) rfl rfl k) ?_
  show DoneW p e below s _ _ _ (T.setTop (mkF m 1132 #[vi p1, vi p2, vi p3, vi p4, vi p5, vi x5, vi x6, vi x7, vi x8, vi x9, vr a10, vi x11, s12, s13] [(.ref a10)]))
  obtain ⟨v101, _, ⟨T101, L101, k101, n101⟩, -, X101, ⟨Lc101, hQ101, l101, y101, z101⟩, st101⟩ := Jvm.LawKit.callS X0 hx (y := (⟨"com/example/stowage/stowage/model/Names", "isName", "(Ljava/lang/String;)Z"⟩ : MethodName)) hown (mvT hZ (tw10 hw)) (mvT hZ (tw11 hw)) (mvT hZ (tw12 hw)) (mvT hZ (tw13 hw)) (by decide) (backOf (W := 0) (rmin l Z a0 hw [] a10 vb kk vs mI nI cs sv xs h0 n0 Z0 E1 F1 F2 A1 D Scs Ssx hsv Sad Shi Slo hcs hz) hZ (tw13 hw) (tw12 hw) (by decide) (by decide)) (g := (mkF m 1132 #[vi p1, vi p2, vi p3, vi p4, vi p5, vi x5, vi x6, vi x7, vi x8, vi x9, vr a10, vi x11, s12, s13] [(.ref a10)])) rfl (by rw [hml]; rfl) (argsL := [(.ref a10)]) (rest := []) (lenOf pd_17 rfl) rfl (by show 2 * 0 + _ ≤ _; exact Nat.le_of_eq rfl) (hb hby at_1132) (fun _ _ => ⟨rfl, e0, (by decide : 12 + 0 ≤ _), (by decide : 700 + 0 ≤ _)⟩)
  dsimp only [Pt.U, Pt.locs, Pt.cells, Pt.slots] at X101 l101 y101 z101 st101 hQ101
  subst l101 y101 z101
  refine DoneW.step st101 ?_
  obtain ⟨rfl, N101q, e101⟩ := hQ101
  have N101 := Fr.app N0 N101q
  show DoneW p e below s _ _ _ (T101.setTop (mkF m 1135 #[vi p1, vi p2, vi p3, vi p4, vi p5, vi x5, vi x6, vi x7, vi x8, vi x9, vr a10, vi x11, s12, s13] [(.int (if (64 : Int32) < nI then (0 : Int32) else if (MO xs) = (0 : Int32) then (0 : Int32) else (1 : Int32)))]))
  refine DoneW.step (fun t k => XS.iload X101.here hx rfl (hb hby at_1135) rfl k) ?_
  show DoneW p e below s _ _ _ (T101.setTop (mkF m 1137 #[vi p1, vi p2, vi p3, vi p4, vi p5, vi x5, vi x6, vi x7, vi x8, vi x9, vr a10, vi x11, s12, s13] [(.int x11), (.int (if (64 : Int32) < nI then (0 : Int32) else if (MO xs) = (0 : Int32) then (0 : Int32) else (1 : Int32)))]))
  refine DoneW.step (fun t k => XS.icmpNo X101.here hx rfl (hb hby at_1137) rfl (teq hexp).2 k) ?_
  show DoneW p e below s _ _ _ (T101.setTop (mkF m 1140 #[vi p1, vi p2, vi p3, vi p4, vi p5, vi x5, vi x6, vi x7, vi x8, vi x9, vr a10, vi x11, s12, s13] []))
  refine DoneW.step (fun t k => XS.iconst X101.here hx rfl (hb hby at_1140) k) ?_
  show DoneW p e below s _ _ _ (T101.setTop (mkF m 1141 #[vi p1, vi p2, vi p3, vi p4, vi p5, vi x5, vi x6, vi x7, vi x8, vi x9, vr a10, vi x11, s12, s13] [(.int 1)]))
  refine DoneW.step (fun t k => XS.goto X101.here hx rfl (pc0 := 1141) (pc' := 1145) rfl (hb hby at_1141) (by decide) (by decide) k) ?_
  show DoneW p e below s _ _ _ (T101.setTop (mkF m 1145 #[vi p1, vi p2, vi p3, vi p4, vi p5, vi x5, vi x6, vi x7, vi x8, vi x9, vr a10, vi x11, s12, s13] [(.int 1)]))
  exact DoneW.narr (s := s) (vm₁ := s.vm) X101 ((State.WarmedH.refl s).since 0) rfl (Nat.zero_le _) hx hlk hret (by simp) (hb hby at_1145) (by decide) (by decide) ⟨rfl, N101⟩
theorem own_r1 {a : Int32} (ha : 0 ≤ a.toInt ∧ a.toInt < 65536) : ∀ x ∈ ([a] : List Int32), 0 ≤ x.toInt ∧ x.toInt < 65536 := by intro x hx; simp only [List.mem_cons, List.not_mem_nil, or_false] at hx; rcases hx with rfl <;> assumption
theorem own_r2 {a b : Int32} (ha : 0 ≤ a.toInt ∧ a.toInt < 65536) (hb : 0 ≤ b.toInt ∧ b.toInt < 65536) : ∀ x ∈ ([a, b] : List Int32), 0 ≤ x.toInt ∧ x.toInt < 65536 := by intro x hx; simp only [List.mem_cons, List.not_mem_nil, or_false] at hx; rcases hx with rfl | rfl <;> assumption
theorem own_r3 {a b d : Int32} (ha : 0 ≤ a.toInt ∧ a.toInt < 65536) (hb : 0 ≤ b.toInt ∧ b.toInt < 65536) (hd : 0 ≤ d.toInt ∧ d.toInt < 65536) : ∀ x ∈ ([a, b, d] : List Int32), 0 ≤ x.toInt ∧ x.toInt < 65536 := by intro x hx; simp only [List.mem_cons, List.not_mem_nil, or_false] at hx; rcases hx with rfl | rfl | rfl <;> assumption
theorem own_wS0 {a0 args : Array Value} {Z s : State} (hw : HH a0 Z) (hZ : Z.Warmed39 s.vm) : ∀ a ∈ Bundle.stringAtoms, a.before args s = true := by
  intro a ha
  simp only [Bundle.stringAtoms, List.mem_cons, List.not_mem_nil, or_false] at ha
  rcases ha with rfl | rfl | rfl | rfl | rfl | rfl | rfl
  · exact mv hZ (tw3 hw)
  · exact mv hZ (tw4 hw)
  · exact mvA hZ (hw _ (List.mem_of_getElem? (i := 5) rfl))
  · exact mv hZ (tw6 hw)
  · exact mv hZ (tw7 hw)
  · exact mv hZ (tw8 hw)
  · exact mv hZ (tw9 hw)
set_option maxRecDepth 65536 in
set_option maxHeartbeats 40000000 in
theorem fill607 {p : Program} {l : Launch} {e : Env} {s : State} {m : MethodId} {args : Array Value} {below : List Frame} {meth : Method} {c : Code} {T : State} {locs : List Loc} {Z : State} {a0 : Array Value} {h0 : Heap} {n0 : Nat} (p1 p2 p3 p4 p5 x5 x6 x7 x8 x9 : Int32) (a12 : Addr) (cs : Int32) (sv : Value)
    (X0 : Stand p l e room_1 s m args below meth c T locs 1 64) (hx : p.tables.exec = Jvm.exec) (hZ : Z.Warmed39 s.vm) (hw : HH a0 Z) (hby : c.code = code) (hml : c.maxLocals = 14) (hown : s.vm.findClass "com/example/stowage/stowage/model/NamesIsNamePinLaw" = some m.cls) (hlk : meth.locks = false) (hret : meth.sig.returnType = ret) (hnm : meth.name = "law") (N0 : Fr n0 locs) (Z0 : n0 ≤ h0.size) (e0 : T.heap = h0) (A12 : Ax Z h0 a12 .char ((RR 64 64 x8).map Value.int)) (E12 : Fl4 Z h0 a12) (g12 : n0 ≤ a12) (Scs : Sta Z h0 "java/lang/String" "COMPACT_STRINGS" "Z" (.int cs)) (Ssx : Sta Z h0 "jdk/internal/util/Preconditions" "SIOOBE_FORMATTER" "Ljava/util/function/BiFunction;" sv) (hsv : sv.isRef = true) (Sad : Sta Z h0 "java/lang/StringUTF16" "$assertionsDisabled" "Z" (.int 1)) (Shi : Sta Z h0 "java/lang/StringUTF16" "HI_BYTE_SHIFT" "I" (.int 0)) (Slo : Sta Z h0 "java/lang/StringUTF16" "LO_BYTE_SHIFT" "I" (.int 8)) (hcs : ¬ cs = (0 : Int32)) (hr5 : 0 ≤ x5.toInt ∧ x5.toInt < 65536) (hr6 : 0 ≤ x6.toInt ∧ x6.toInt < 65536) (hr7 : 0 ≤ x7.toInt ∧ x7.toInt < 65536) (hr8 : 0 ≤ x8.toInt ∧ x8.toInt < 65536) (hc5 : nar .char x5 = x5) (hc6 : nar .char x6 = x6) (hc7 : nar .char x7 = x7) (hc8 : nar .char x8 = x8) :
    DoneW p e below s (fun v h L => v = some (.int 1) ∧ Fr n0 L) room_1.cells room_1.slots (T.setTop (mkF m 607 #[vi p1, vi p2, vi p3, vi p4, vi p5, vi x5, vi x6, vi x7, vi x8, vi x9, vu, vu, vu, vu] [(.ref a12)])) := by
  show DoneW p e below s _ _ _ (T.setTop (mkF m 607 #[vi p1, vi p2, vi p3, vi p4, vi p5, vi x5, vi x6, vi x7, vi x8, vi x9, vu, vu, vu, vu] [(.ref a12)]))
  refine DoneW.step (fun t k => XS.astore X0.here hx rfl (hb hby at_607) rfl rfl (l' := #[vi p1, vi p2, vi p3, vi p4, vi p5, vi x5, vi x6, vi x7, vi x8, vi x9, vu, vu, vr a12, vu]) rfl k) ?_
  show DoneW p e below s _ _ _ (T.setTop (mkF m 609 #[vi p1, vi p2, vi p3, vi p4, vi p5, vi x5, vi x6, vi x7, vi x8, vi x9, vu, vu, vr a12, vu] []))
  refine DoneW.step (fun t k => XS.iloadN X0.here hx rfl (hb hby at_609) rfl k) ?_
  show DoneW p e below s _ _ _ (T.setTop (mkF m 610 #[vi p1, vi p2, vi p3, vi p4, vi p5, vi x5, vi x6, vi x7, vi x8, vi x9, vu, vu, vr a12, vu] [(.int p1)]))
  refine DoneW.step (fun t k => XS.iconst X0.here hx rfl (hb hby at_610) k) ?_
  show DoneW p e below s _ _ _ (T.setTop (mkF m 611 #[vi p1, vi p2, vi p3, vi p4, vi p5, vi x5, vi x6, vi x7, vi x8, vi x9, vu, vu, vr a12, vu] [(.int 3), (.int p1)]))
  refine DoneW.step (fun t k => XS.iushr X0.here hx rfl (hb hby at_611) rfl k) ?_
  show DoneW p e below s _ _ _ (T.setTop (mkF m 612 #[vi p1, vi p2, vi p3, vi p4, vi p5, vi x5, vi x6, vi x7, vi x8, vi x9, vu, vu, vr a12, vu] [(.int ((p1.toUInt32 >>> ((3 : Int32) &&& 31).toUInt32).toInt32))]))
  refine DoneW.step (fun t k => XS.bipush X0.here hx rfl (hb hby at_612) k) ?_
  show DoneW p e below s _ _ _ (T.setTop (mkF m 614 #[vi p1, vi p2, vi p3, vi p4, vi p5, vi x5, vi x6, vi x7, vi x8, vi x9, vu, vu, vr a12, vu] [(.int 64), (.int ((p1.toUInt32 >>> ((3 : Int32) &&& 31).toUInt32).toInt32))]))
  refine DoneW.step (fun t k => iremM X0 hx rfl (hb hby at_614) rfl (by decide) k) ?_
  show DoneW p e below s _ _ _ (T.setTop (mkF m 615 #[vi p1, vi p2, vi p3, vi p4, vi p5, vi x5, vi x6, vi x7, vi x8, vi x9, vu, vu, vr a12, vu] [(.int (((p1.toUInt32 >>> ((3 : Int32) &&& 31).toUInt32).toInt32) % (64 : Int32)))]))
  generalize dx101 : (((p1.toUInt32 >>> ((3 : Int32) &&& 31).toUInt32).toInt32) % (64 : Int32)) = x101
  show DoneW p e below s _ _ _ (T.setTop (mkF m 615 #[vi p1, vi p2, vi p3, vi p4, vi p5, vi x5, vi x6, vi x7, vi x8, vi x9, vu, vu, vr a12, vu] [(.int x101)]))
  refine DoneW.step (fun t k => XS.istore X0.here hx rfl (hb hby at_615) rfl (l' := #[vi p1, vi p2, vi p3, vi p4, vi p5, vi x5, vi x6, vi x7, vi x8, vi x9, vu, vu, vr a12, vi x101]) rfl k) ?_
  show DoneW p e below s _ _ _ (T.setTop (mkF m 617 #[vi p1, vi p2, vi p3, vi p4, vi p5, vi x5, vi x6, vi x7, vi x8, vi x9, vu, vu, vr a12, vi x101] []))
  obtain ⟨pp, hpp, hpl⟩ := own_pp 64 dx101 (by rfl) (by decide)
  refine DoneW.step (fun t k => XS.aload X0.here hx rfl (hb hby at_617) rfl rfl k) ?_
  show DoneW p e below s _ _ _ (T.setTop (mkF m 619 #[vi p1, vi p2, vi p3, vi p4, vi p5, vi x5, vi x6, vi x7, vi x8, vi x9, vu, vu, vr a12, vi x101] [(.ref a12)]))
  refine DoneW.step (fun t k => XS.iconst X0.here hx rfl (hb hby at_619) k) ?_
  show DoneW p e below s _ _ _ (T.setTop (mkF m 620 #[vi p1, vi p2, vi p3, vi p4, vi p5, vi x5, vi x6, vi x7, vi x8, vi x9, vu, vu, vr a12, vi x101] [(.int 0), (.ref a12)]))
  refine DoneW.step (fun t k => XS.iload X0.here hx rfl (hb hby at_620) rfl k) ?_
  show DoneW p e below s _ _ _ (T.setTop (mkF m 622 #[vi p1, vi p2, vi p3, vi p4, vi p5, vi x5, vi x6, vi x7, vi x8, vi x9, vu, vu, vr a12, vi x101] [(.int x5), (.int 0), (.ref a12)]))
  obtain ⟨T102, h102, X102, e102, W102, A102, st102⟩ := stoC X0 hx hZ e0 A12 (j := (0 : Int32)) (by decide) (i := 0) (by decide) (by simp only [List.length_map, List.length_set, RR.len (Nat.le_refl _)]; decide) (g := (mkF m 622 #[vi p1, vi p2, vi p3, vi p4, vi p5, vi x5, vi x6, vi x7, vi x8, vi x9, vu, vu, vr a12, vi x101] [(.int x5), (.int 0), (.ref a12)])) rfl rfl (hb hby at_622)
  have f103 : Ax Z h102 a12 .char (((RR 64 64 x8).set 0 x5).map Value.int) := (by have q := A102; rw [hc5, ← List.map_set] at q; exact q)
  have f104 := E12.wr W102
  have f105 := Scs.wr W102
  have f106 := Ssx.wr W102
  have f107 := Sad.wr W102
  have f108 := Shi.wr W102
  have f109 := Slo.wr W102
  have Z102 := Nat.le_trans Z0 (Keep.of_wr W102).1
  have N102 := Fr.snoc X102 N0 g12
  refine DoneW.step st102 ?_
  show DoneW p e below s _ _ _ (T102.setTop (mkF m 623 #[vi p1, vi p2, vi p3, vi p4, vi p5, vi x5, vi x6, vi x7, vi x8, vi x9, vu, vu, vr a12, vi x101] []))
  refine DoneW.step (fun t k => XS.aload X102.here hx rfl (hb hby at_623) rfl rfl k) ?_
  show DoneW p e below s _ _ _ (T102.setTop (mkF m 625 #[vi p1, vi p2, vi p3, vi p4, vi p5, vi x5, vi x6, vi x7, vi x8, vi x9, vu, vu, vr a12, vi x101] [(.ref a12)]))
  refine DoneW.step (fun t k => XS.iload X102.here hx rfl (hb hby at_625) rfl k) ?_
  show DoneW p e below s _ _ _ (T102.setTop (mkF m 627 #[vi p1, vi p2, vi p3, vi p4, vi p5, vi x5, vi x6, vi x7, vi x8, vi x9, vu, vu, vr a12, vi x101] [(.int x101), (.ref a12)]))
  refine DoneW.step (fun t k => XS.iload X102.here hx rfl (hb hby at_627) rfl k) ?_
  show DoneW p e below s _ _ _ (T102.setTop (mkF m 629 #[vi p1, vi p2, vi p3, vi p4, vi p5, vi x5, vi x6, vi x7, vi x8, vi x9, vu, vu, vr a12, vi x101] [(.int x6), (.int x101), (.ref a12)]))
  obtain ⟨T110, h110, X110, e110, W110, A110, st110⟩ := stoC X102 hx hZ e102 f103 (j := x101) (own_nneg hpp) (i := pp) (own_cl hpp) (by simp only [List.length_map, List.length_set, RR.len (Nat.le_refl _)]; exact hpl) (g := (mkF m 629 #[vi p1, vi p2, vi p3, vi p4, vi p5, vi x5, vi x6, vi x7, vi x8, vi x9, vu, vu, vr a12, vi x101] [(.int x6), (.int x101), (.ref a12)])) rfl rfl (hb hby at_629)
  have f111 : Ax Z h110 a12 .char ((((RR 64 64 x8).set 0 x5).set pp x6).map Value.int) := (by have q := A110; rw [hc6, ← List.map_set] at q; exact q)
  have f112 := f104.wr W110
  have f113 := f105.wr W110
  have f114 := f106.wr W110
  have f115 := f107.wr W110
  have f116 := f108.wr W110
  have f117 := f109.wr W110
  have Z110 := Nat.le_trans Z102 (Keep.of_wr W110).1
  have N110 := Fr.snoc X110 N102 g12
  refine DoneW.step st110 ?_
  show DoneW p e below s _ _ _ (T110.setTop (mkF m 630 #[vi p1, vi p2, vi p3, vi p4, vi p5, vi x5, vi x6, vi x7, vi x8, vi x9, vu, vu, vr a12, vi x101] []))
  refine DoneW.step (fun t k => XS.aload X110.here hx rfl (hb hby at_630) rfl rfl k) ?_
  show DoneW p e below s _ _ _ (T110.setTop (mkF m 632 #[vi p1, vi p2, vi p3, vi p4, vi p5, vi x5, vi x6, vi x7, vi x8, vi x9, vu, vu, vr a12, vi x101] [(.ref a12)]))
  refine DoneW.step (fun t k => XS.bipush X110.here hx rfl (hb hby at_632) k) ?_
  show DoneW p e below s _ _ _ (T110.setTop (mkF m 634 #[vi p1, vi p2, vi p3, vi p4, vi p5, vi x5, vi x6, vi x7, vi x8, vi x9, vu, vu, vr a12, vi x101] [(.int 63), (.ref a12)]))
  refine DoneW.step (fun t k => XS.iload X110.here hx rfl (hb hby at_634) rfl k) ?_
  show DoneW p e below s _ _ _ (T110.setTop (mkF m 636 #[vi p1, vi p2, vi p3, vi p4, vi p5, vi x5, vi x6, vi x7, vi x8, vi x9, vu, vu, vr a12, vi x101] [(.int x7), (.int 63), (.ref a12)]))
  obtain ⟨T118, h118, X118, e118, W118, A118, st118⟩ := stoC X110 hx hZ e110 f111 (j := (63 : Int32)) (by decide) (i := 63) (by decide) (by simp only [List.length_map, List.length_set, RR.len (Nat.le_refl _)]; decide) (g := (mkF m 636 #[vi p1, vi p2, vi p3, vi p4, vi p5, vi x5, vi x6, vi x7, vi x8, vi x9, vu, vu, vr a12, vi x101] [(.int x7), (.int 63), (.ref a12)])) rfl rfl (hb hby at_636)
  have f119 : Ax Z h118 a12 .char (((((RR 64 64 x8).set 0 x5).set pp x6).set 63 x7).map Value.int) := (by have q := A118; rw [hc7, ← List.map_set] at q; exact q)
  have f120 := f112.wr W118
  have f121 := f113.wr W118
  have f122 := f114.wr W118
  have f123 := f115.wr W118
  have f124 := f116.wr W118
  have f125 := f117.wr W118
  have Z118 := Nat.le_trans Z110 (Keep.of_wr W118).1
  have N118 := Fr.snoc X118 N110 g12
  refine DoneW.step st118 ?_
  show DoneW p e below s _ _ _ (T118.setTop (mkF m 637 #[vi p1, vi p2, vi p3, vi p4, vi p5, vi x5, vi x6, vi x7, vi x8, vi x9, vu, vu, vr a12, vi x101] []))
  have g126 : Ax Z h118 a12 .char ((TT 64 pp x8 x5 x6 x7).map Value.int) := by have q := f119; exact q
  obtain ⟨T127, h127, X127, e127, E127, A127, D127, -, st127⟩ := newO X118 hx hZ hown (tw21 hw) (tw4 hw) (tw3 hw) e118 (g := (mkF m 637 #[vi p1, vi p2, vi p3, vi p4, vi p5, vi x5, vi x6, vi x7, vi x8, vi x9, vu, vu, vr a12, vi x101] [])) rfl (hb hby at_637) (by decide) (by decide)
  obtain ⟨b127, gq127⟩ : ∃ z, z = h118.size := ⟨_, rfl⟩
  rw [← gq127] at A127 D127 st127
  have ne128 := Nat.ne_of_lt (Nat.lt_of_lt_of_le g126.lt (Nat.le_of_eq gq127.symm))
  have f129 := g126.ext E127
  have f130 := f120.ext E127
  have f131 := f121.ext E127
  have f132 := f122.ext E127
  have f133 := f123.ext E127
  have f134 := f124.ext E127
  have f135 := f125.ext E127
  have g_b127 := Nat.le_trans Z118 (Nat.le_of_eq gq127.symm)
  have Z127 := Nat.le_trans Z118 E127.1
  have f136 : Fl1 Z h127 b127 .null := D127 (Or.inr (tw6 hw)) (ty := (.array .byte)) (by decide)
  have f137 : Fl0 Z h127 b127 (.int 0) := D127 (Or.inr (tw7 hw)) (ty := .byte) (by decide)
  refine DoneW.step st127 ?_
  show DoneW p e below s _ _ _ (T127.setTop (mkF m 640 #[vi p1, vi p2, vi p3, vi p4, vi p5, vi x5, vi x6, vi x7, vi x8, vi x9, vu, vu, vr a12, vi x101] [(.ref b127)]))
  refine DoneW.step (fun t k => XS.dup X127.here hx rfl (hb hby at_640) rfl rfl k) ?_
  show DoneW p e below s _ _ _ (T127.setTop (mkF m 641 #[vi p1, vi p2, vi p3, vi p4, vi p5, vi x5, vi x6, vi x7, vi x8, vi x9, vu, vu, vr a12, vi x101] [(.ref b127), (.ref b127)]))
  refine DoneW.step (fun t k => XS.aload X127.here hx rfl (hb hby at_641) rfl rfl k) ?_
  show DoneW p e below s _ _ _ (T127.setTop (mkF m 643 #[vi p1, vi p2, vi p3, vi p4, vi p5, vi x5, vi x6, vi x7, vi x8, vi x9, vu, vu, vr a12, vi x101] [(.ref a12), (.ref b127), (.ref b127)]))
  obtain ⟨v138, _, ⟨T138, L138, k138, n138⟩, -, X138, ⟨Lc138, hQ138, l138, y138, z138⟩, st138⟩ := X127.specialBack hx (y := (⟨"java/lang/String", "<init>", "([C)V"⟩ : MethodName)) rfl hown (mvT hZ (tw22 hw)) (mvT hZ (tw23 hw)) (mvT hZ (tw24 hw)) (by decide) (backOf (W := 1) (rm3 l Z a0 hw [] b127 a12 (TT 64 pp x8 x5 x6 x7) cs (64 : Int32) h127 n0 Z127 A127 f136 f137 g_b127 f130 f129 f131 f133 f134 f135 hcs (by rw [TT.len]; rfl) (by rw [TT.len]; decide) (by rw [TT.len]; decide) (TT.ch hr8 hr5 hr6 hr7) ne128) hZ (tw24 hw) (tw3 hw) (by decide) (by decide)) (g := (mkF m 643 #[vi p1, vi p2, vi p3, vi p4, vi p5, vi x5, vi x6, vi x7, vi x8, vi x9, vu, vu, vr a12, vi x101] [(.ref a12), (.ref b127), (.ref b127)])) rfl (by rw [hml]; rfl) (Steps.refl _) (a := b127) (argsL := [(.ref a12)]) (rest := [(.ref b127)]) (lenOf pd_18 rfl) rfl (by show 2 * 0 + _ ≤ _; exact Nat.le_of_eq rfl) (hb hby at_643) (fun _ _ => ⟨rfl, e127, (by decide : 2 + 2 ≤ _), (by decide : 68 + 195 ≤ _)⟩)
  dsimp only [Pt.U, Pt.locs, Pt.cells, Pt.slots] at X138 l138 y138 z138 st138 hQ138
  subst l138 y138 z138
  refine DoneW.far st138 ?_
  obtain ⟨rfl, N138q, K138q, xE138, vb138, kk138, vs138, mI138, nI138, xF138, xG138, xA138, hD138⟩ := hQ138
  have N138 := Fr.app N118 N138q
  have f139 := f129.keep K138q (ninS ne128 nin0)
  have f140 := f130.keep K138q
  have f141 := own_stakeep f131 K138q (allS (own_unst A127) all0)
  have f142 := own_stakeep f132 K138q (allS (own_unst A127) all0)
  have f143 := own_stakeep f133 K138q (allS (own_unst A127) all0)
  have f144 := own_stakeep f134 K138q (allS (own_unst A127) all0)
  have f145 := own_stakeep f135 K138q (allS (own_unst A127) all0)
  have f146 := A127.keep K138q
  have Zk138 := Nat.le_trans Z127 K138q.1
  show DoneW p e below s _ _ _ (T138.setTop (mkF m 646 #[vi p1, vi p2, vi p3, vi p4, vi p5, vi x5, vi x6, vi x7, vi x8, vi x9, vu, vu, vr a12, vi x101] [(.ref b127)]))
  refine DoneW.step (fun t k => XS.astore X138.here hx rfl (hb hby at_646) rfl rfl (l' := #[vi p1, vi p2, vi p3, vi p4, vi p5, vi x5, vi x6, vi x7, vi x8, vi x9, vr b127, vu, vr a12, vi x101]) rfl k) ?_
  show DoneW p e below s _ _ _ (T138.setTop (mkF m 648 #[vi p1, vi p2, vi p3, vi p4, vi p5, vi x5, vi x6, vi x7, vi x8, vi x9, vr b127, vu, vr a12, vi x101] []))
  refine DoneW.step (fun t k => XS.iload X138.here hx rfl (hb hby at_648) rfl k) ?_
  show DoneW p e below s _ _ _ (T138.setTop (mkF m 650 #[vi p1, vi p2, vi p3, vi p4, vi p5, vi x5, vi x6, vi x7, vi x8, vi x9, vr b127, vu, vr a12, vi x101] [(.int x8)]))
  obtain ⟨v147, _, ⟨T147, L147, k147, n147⟩, -, X147, ⟨Lc147, hQ147, l147, y147, z147⟩, st147⟩ := Jvm.LawKit.callS X138 hx (y := (⟨"com/example/stowage/stowage/model/NamesIsNamePinLaw", "ok", "(C)Z"⟩ : MethodName)) hown (mvT hZ (tw44 hw)) (mvT hZ (tw45 hw)) (mvT hZ (tw46 hw)) (mvT hZ (tw47 hw)) (by decide) (backOf (W := 0) (rm9 l Z a0 hw [] x8 T138.heap n0 Zk138 ) hZ (tw47 hw) (tw46 hw) (by decide) (by decide)) (g := (mkF m 650 #[vi p1, vi p2, vi p3, vi p4, vi p5, vi x5, vi x6, vi x7, vi x8, vi x9, vr b127, vu, vr a12, vi x101] [(.int x8)])) rfl (by rw [hml]; rfl) (argsL := [(.int x8)]) (rest := []) (lenOf pd_19 rfl) rfl (by show 2 * 0 + _ ≤ _; exact Nat.le_of_eq rfl) (hb hby at_650) (fun _ _ => ⟨rfl, rfl, (by decide : 4 + 0 ≤ _), (by decide : 263 + 0 ≤ _)⟩)
  dsimp only [Pt.U, Pt.locs, Pt.cells, Pt.slots] at X147 l147 y147 z147 st147 hQ147
  subst l147 y147 z147
  refine DoneW.step st147 ?_
  obtain ⟨rfl, N147q, e147⟩ := hQ147
  have N147 := Fr.app N138 N147q
  show DoneW p e below s _ _ _ (T147.setTop (mkF m 653 #[vi p1, vi p2, vi p3, vi p4, vi p5, vi x5, vi x6, vi x7, vi x8, vi x9, vr b127, vu, vr a12, vi x101] [(.int (F9 x8))]))
  by_cases c1 : (F9 x8) = (0 : Int32)
  · refine DoneW.step (fun t k => XS.ifYes X147.here hx rfl (pc0 := 653) (pc' := 692) rfl (hb hby at_653) rfl ((if0 _ _).trans (teq c1).1) (by decide) (by decide) k) ?_
    show DoneW p e below s _ _ _ (T147.setTop (mkF m 692 #[vi p1, vi p2, vi p3, vi p4, vi p5, vi x5, vi x6, vi x7, vi x8, vi x9, vr b127, vu, vr a12, vi x101] []))
    refine DoneW.step (fun t k => XS.iconst X147.here hx rfl (hb hby at_692) k) ?_
    show DoneW p e below s _ _ _ (T147.setTop (mkF m 693 #[vi p1, vi p2, vi p3, vi p4, vi p5, vi x5, vi x6, vi x7, vi x8, vi x9, vr b127, vu, vr a12, vi x101] [(.int 0)]))
    refine DoneW.step (fun t k => XS.istore X147.here hx rfl (hb hby at_693) rfl (l' := #[vi p1, vi p2, vi p3, vi p4, vi p5, vi x5, vi x6, vi x7, vi x8, vi x9, vr b127, vi 0, vr a12, vi x101]) rfl k) ?_
    show DoneW p e below s _ _ _ (T147.setTop (mkF m 695 #[vi p1, vi p2, vi p3, vi p4, vi p5, vi x5, vi x6, vi x7, vi x8, vi x9, vr b127, vi 0, vr a12, vi x101] []))
    refine DoneW.step (fun t k => XS.goto X147.here hx rfl (pc0 := 695) (pc' := 1130) rfl (hb hby at_695) (by decide) (by decide) k) ?_
    show DoneW p e below s _ _ _ (T147.setTop (mkF m 1130 #[vi p1, vi p2, vi p3, vi p4, vi p5, vi x5, vi x6, vi x7, vi x8, vi x9, vr b127, vi 0, vr a12, vi x101] []))
    exact blk1130 p1 p2 p3 p4 p5 x5 x6 x7 x8 x9 b127 (0 : Int32) (vr a12 : Slot) (vi x101 : Slot) vb138 kk138 vs138 mI138 nI138 cs sv (TT 64 pp x8 x5 x6 x7) (X147.mono (by decide) (by decide)) hx hZ hw hby hml hown hlk hret hnm N147 Zk138 e147 f146 xF138 xG138 xA138 hD138 f141 f142 hsv f143 f144 f145 hcs (own_mz hD138 (by rw [TT.len]; decide)) ((own_in hD138.2.2.2.1 (by rw [TT.len]; decide)).trans (own_moF _ _ (TT.d (by decide)) c1))
  · refine DoneW.step (fun t k => XS.ifNo X147.here hx rfl (hb hby at_653) rfl ((if0 _ _).trans (feq c1).1) k) ?_
    show DoneW p e below s _ _ _ (T147.setTop (mkF m 656 #[vi p1, vi p2, vi p3, vi p4, vi p5, vi x5, vi x6, vi x7, vi x8, vi x9, vr b127, vu, vr a12, vi x101] []))
    refine DoneW.step (fun t k => XS.aload X147.here hx rfl (hb hby at_656) rfl rfl k) ?_
    show DoneW p e below s _ _ _ (T147.setTop (mkF m 658 #[vi p1, vi p2, vi p3, vi p4, vi p5, vi x5, vi x6, vi x7, vi x8, vi x9, vr b127, vu, vr a12, vi x101] [(.ref a12)]))
    refine DoneW.step (fun t k => XS.iconst X147.here hx rfl (hb hby at_658) k) ?_
    show DoneW p e below s _ _ _ (T147.setTop (mkF m 659 #[vi p1, vi p2, vi p3, vi p4, vi p5, vi x5, vi x6, vi x7, vi x8, vi x9, vr b127, vu, vr a12, vi x101] [(.int 0), (.ref a12)]))
    obtain ⟨y0, hy0⟩ : ∃ y, (TT 64 pp x8 x5 x6 x7)[0]? = some y := ⟨_, List.getElem?_eq_getElem (by rw [TT.len]; decide)⟩
    refine DoneW.step (ldC X147 hx hZ e147 f139 (j := (0 : Int32)) (x := (.int y0)) (by decide) (by rw [show ((0 : Int32)).toNatClampNeg = 0 from by decide, List.getElem?_map, hy0]; rfl) (g := (mkF m 659 #[vi p1, vi p2, vi p3, vi p4, vi p5, vi x5, vi x6, vi x7, vi x8, vi x9, vr b127, vu, vr a12, vi x101] [(.int 0), (.ref a12)])) rfl rfl (hb hby at_659)) ?_
    show DoneW p e below s _ _ _ (T147.setTop (mkF m 660 #[vi p1, vi p2, vi p3, vi p4, vi p5, vi x5, vi x6, vi x7, vi x8, vi x9, vr b127, vu, vr a12, vi x101] [(.int y0)]))
    obtain ⟨v148, _, ⟨T148, L148, k148, n148⟩, -, X148, ⟨Lc148, hQ148, l148, y148, z148⟩, st148⟩ := Jvm.LawKit.callS X147 hx (y := (⟨"com/example/stowage/stowage/model/NamesIsNamePinLaw", "ok", "(C)Z"⟩ : MethodName)) hown (mvT hZ (tw44 hw)) (mvT hZ (tw45 hw)) (mvT hZ (tw46 hw)) (mvT hZ (tw47 hw)) (by decide) (backOf (W := 0) (rm9 l Z a0 hw [] y0 T138.heap n0 Zk138 ) hZ (tw47 hw) (tw46 hw) (by decide) (by decide)) (g := (mkF m 660 #[vi p1, vi p2, vi p3, vi p4, vi p5, vi x5, vi x6, vi x7, vi x8, vi x9, vr b127, vu, vr a12, vi x101] [(.int y0)])) rfl (by rw [hml]; rfl) (argsL := [(.int y0)]) (rest := []) (lenOf pd_19 rfl) rfl (by show 2 * 0 + _ ≤ _; exact Nat.le_of_eq rfl) (hb hby at_660) (fun _ _ => ⟨rfl, e147, (by decide : 4 + 0 ≤ _), (by decide : 263 + 0 ≤ _)⟩)
    dsimp only [Pt.U, Pt.locs, Pt.cells, Pt.slots] at X148 l148 y148 z148 st148 hQ148
    subst l148 y148 z148
    refine DoneW.step st148 ?_
    obtain ⟨rfl, N148q, e148⟩ := hQ148
    have N148 := Fr.app N147 N148q
    show DoneW p e below s _ _ _ (T148.setTop (mkF m 663 #[vi p1, vi p2, vi p3, vi p4, vi p5, vi x5, vi x6, vi x7, vi x8, vi x9, vr b127, vu, vr a12, vi x101] [(.int (F9 y0))]))
    by_cases c2 : (F9 y0) = (0 : Int32)
    · refine DoneW.step (fun t k => XS.ifYes X148.here hx rfl (pc0 := 663) (pc' := 692) rfl (hb hby at_663) rfl ((if0 _ _).trans (teq c2).1) (by decide) (by decide) k) ?_
      show DoneW p e below s _ _ _ (T148.setTop (mkF m 692 #[vi p1, vi p2, vi p3, vi p4, vi p5, vi x5, vi x6, vi x7, vi x8, vi x9, vr b127, vu, vr a12, vi x101] []))
      refine DoneW.step (fun t k => XS.iconst X148.here hx rfl (hb hby at_692) k) ?_
      show DoneW p e below s _ _ _ (T148.setTop (mkF m 693 #[vi p1, vi p2, vi p3, vi p4, vi p5, vi x5, vi x6, vi x7, vi x8, vi x9, vr b127, vu, vr a12, vi x101] [(.int 0)]))
      refine DoneW.step (fun t k => XS.istore X148.here hx rfl (hb hby at_693) rfl (l' := #[vi p1, vi p2, vi p3, vi p4, vi p5, vi x5, vi x6, vi x7, vi x8, vi x9, vr b127, vi 0, vr a12, vi x101]) rfl k) ?_
      show DoneW p e below s _ _ _ (T148.setTop (mkF m 695 #[vi p1, vi p2, vi p3, vi p4, vi p5, vi x5, vi x6, vi x7, vi x8, vi x9, vr b127, vi 0, vr a12, vi x101] []))
      refine DoneW.step (fun t k => XS.goto X148.here hx rfl (pc0 := 695) (pc' := 1130) rfl (hb hby at_695) (by decide) (by decide) k) ?_
      show DoneW p e below s _ _ _ (T148.setTop (mkF m 1130 #[vi p1, vi p2, vi p3, vi p4, vi p5, vi x5, vi x6, vi x7, vi x8, vi x9, vr b127, vi 0, vr a12, vi x101] []))
      exact blk1130 p1 p2 p3 p4 p5 x5 x6 x7 x8 x9 b127 (0 : Int32) (vr a12 : Slot) (vi x101 : Slot) vb138 kk138 vs138 mI138 nI138 cs sv (TT 64 pp x8 x5 x6 x7) (X148.mono (by decide) (by decide)) hx hZ hw hby hml hown hlk hret hnm N148 Zk138 e148 f146 xF138 xG138 xA138 hD138 f141 f142 hsv f143 f144 f145 hcs (own_mz hD138 (by rw [TT.len]; decide)) ((own_in hD138.2.2.2.1 (by rw [TT.len]; decide)).trans (own_moF _ _ (List.mem_of_getElem? hy0) c2))
    · refine DoneW.step (fun t k => XS.ifNo X148.here hx rfl (hb hby at_663) rfl ((if0 _ _).trans (feq c2).1) k) ?_
      show DoneW p e below s _ _ _ (T148.setTop (mkF m 666 #[vi p1, vi p2, vi p3, vi p4, vi p5, vi x5, vi x6, vi x7, vi x8, vi x9, vr b127, vu, vr a12, vi x101] []))
      refine DoneW.step (fun t k => XS.aload X148.here hx rfl (hb hby at_666) rfl rfl k) ?_
      show DoneW p e below s _ _ _ (T148.setTop (mkF m 668 #[vi p1, vi p2, vi p3, vi p4, vi p5, vi x5, vi x6, vi x7, vi x8, vi x9, vr b127, vu, vr a12, vi x101] [(.ref a12)]))
      refine DoneW.step (fun t k => XS.iload X148.here hx rfl (hb hby at_668) rfl k) ?_
      show DoneW p e below s _ _ _ (T148.setTop (mkF m 670 #[vi p1, vi p2, vi p3, vi p4, vi p5, vi x5, vi x6, vi x7, vi x8, vi x9, vr b127, vu, vr a12, vi x101] [(.int x101), (.ref a12)]))
      obtain ⟨y1, hy1⟩ : ∃ y, (TT 64 pp x8 x5 x6 x7)[pp]? = some y := ⟨_, List.getElem?_eq_getElem (by rw [TT.len]; exact hpl)⟩
      refine DoneW.step (ldC X148 hx hZ e148 f139 (j := x101) (x := (.int y1)) (own_nneg hpp) (by rw [own_cl hpp, List.getElem?_map, hy1]; rfl) (g := (mkF m 670 #[vi p1, vi p2, vi p3, vi p4, vi p5, vi x5, vi x6, vi x7, vi x8, vi x9, vr b127, vu, vr a12, vi x101] [(.int x101), (.ref a12)])) rfl rfl (hb hby at_670)) ?_
      show DoneW p e below s _ _ _ (T148.setTop (mkF m 671 #[vi p1, vi p2, vi p3, vi p4, vi p5, vi x5, vi x6, vi x7, vi x8, vi x9, vr b127, vu, vr a12, vi x101] [(.int y1)]))
      obtain ⟨v149, _, ⟨T149, L149, k149, n149⟩, -, X149, ⟨Lc149, hQ149, l149, y149, z149⟩, st149⟩ := Jvm.LawKit.callS X148 hx (y := (⟨"com/example/stowage/stowage/model/NamesIsNamePinLaw", "ok", "(C)Z"⟩ : MethodName)) hown (mvT hZ (tw44 hw)) (mvT hZ (tw45 hw)) (mvT hZ (tw46 hw)) (mvT hZ (tw47 hw)) (by decide) (backOf (W := 0) (rm9 l Z a0 hw [] y1 T138.heap n0 Zk138 ) hZ (tw47 hw) (tw46 hw) (by decide) (by decide)) (g := (mkF m 671 #[vi p1, vi p2, vi p3, vi p4, vi p5, vi x5, vi x6, vi x7, vi x8, vi x9, vr b127, vu, vr a12, vi x101] [(.int y1)])) rfl (by rw [hml]; rfl) (argsL := [(.int y1)]) (rest := []) (lenOf pd_19 rfl) rfl (by show 2 * 0 + _ ≤ _; exact Nat.le_of_eq rfl) (hb hby at_671) (fun _ _ => ⟨rfl, e148, (by decide : 4 + 0 ≤ _), (by decide : 263 + 0 ≤ _)⟩)
      dsimp only [Pt.U, Pt.locs, Pt.cells, Pt.slots] at X149 l149 y149 z149 st149 hQ149
      subst l149 y149 z149
      refine DoneW.step st149 ?_
      obtain ⟨rfl, N149q, e149⟩ := hQ149
      have N149 := Fr.app N148 N149q
      show DoneW p e below s _ _ _ (T149.setTop (mkF m 674 #[vi p1, vi p2, vi p3, vi p4, vi p5, vi x5, vi x6, vi x7, vi x8, vi x9, vr b127, vu, vr a12, vi x101] [(.int (F9 y1))]))
      by_cases c3 : (F9 y1) = (0 : Int32)
      · refine DoneW.step (fun t k => XS.ifYes X149.here hx rfl (pc0 := 674) (pc' := 692) rfl (hb hby at_674) rfl ((if0 _ _).trans (teq c3).1) (by decide) (by decide) k) ?_
        show DoneW p e below s _ _ _ (T149.setTop (mkF m 692 #[vi p1, vi p2, vi p3, vi p4, vi p5, vi x5, vi x6, vi x7, vi x8, vi x9, vr b127, vu, vr a12, vi x101] []))
        refine DoneW.step (fun t k => XS.iconst X149.here hx rfl (hb hby at_692) k) ?_
        show DoneW p e below s _ _ _ (T149.setTop (mkF m 693 #[vi p1, vi p2, vi p3, vi p4, vi p5, vi x5, vi x6, vi x7, vi x8, vi x9, vr b127, vu, vr a12, vi x101] [(.int 0)]))
        refine DoneW.step (fun t k => XS.istore X149.here hx rfl (hb hby at_693) rfl (l' := #[vi p1, vi p2, vi p3, vi p4, vi p5, vi x5, vi x6, vi x7, vi x8, vi x9, vr b127, vi 0, vr a12, vi x101]) rfl k) ?_
        show DoneW p e below s _ _ _ (T149.setTop (mkF m 695 #[vi p1, vi p2, vi p3, vi p4, vi p5, vi x5, vi x6, vi x7, vi x8, vi x9, vr b127, vi 0, vr a12, vi x101] []))
        refine DoneW.step (fun t k => XS.goto X149.here hx rfl (pc0 := 695) (pc' := 1130) rfl (hb hby at_695) (by decide) (by decide) k) ?_
        show DoneW p e below s _ _ _ (T149.setTop (mkF m 1130 #[vi p1, vi p2, vi p3, vi p4, vi p5, vi x5, vi x6, vi x7, vi x8, vi x9, vr b127, vi 0, vr a12, vi x101] []))
        exact blk1130 p1 p2 p3 p4 p5 x5 x6 x7 x8 x9 b127 (0 : Int32) (vr a12 : Slot) (vi x101 : Slot) vb138 kk138 vs138 mI138 nI138 cs sv (TT 64 pp x8 x5 x6 x7) (X149.mono (by decide) (by decide)) hx hZ hw hby hml hown hlk hret hnm N149 Zk138 e149 f146 xF138 xG138 xA138 hD138 f141 f142 hsv f143 f144 f145 hcs (own_mz hD138 (by rw [TT.len]; decide)) ((own_in hD138.2.2.2.1 (by rw [TT.len]; decide)).trans (own_moF _ _ (List.mem_of_getElem? hy1) c3))
      · refine DoneW.step (fun t k => XS.ifNo X149.here hx rfl (hb hby at_674) rfl ((if0 _ _).trans (feq c3).1) k) ?_
        show DoneW p e below s _ _ _ (T149.setTop (mkF m 677 #[vi p1, vi p2, vi p3, vi p4, vi p5, vi x5, vi x6, vi x7, vi x8, vi x9, vr b127, vu, vr a12, vi x101] []))
        refine DoneW.step (fun t k => XS.aload X149.here hx rfl (hb hby at_677) rfl rfl k) ?_
        show DoneW p e below s _ _ _ (T149.setTop (mkF m 679 #[vi p1, vi p2, vi p3, vi p4, vi p5, vi x5, vi x6, vi x7, vi x8, vi x9, vr b127, vu, vr a12, vi x101] [(.ref a12)]))
        refine DoneW.step (fun t k => XS.bipush X149.here hx rfl (hb hby at_679) k) ?_
        show DoneW p e below s _ _ _ (T149.setTop (mkF m 681 #[vi p1, vi p2, vi p3, vi p4, vi p5, vi x5, vi x6, vi x7, vi x8, vi x9, vr b127, vu, vr a12, vi x101] [(.int 63), (.ref a12)]))
        obtain ⟨y2, hy2⟩ : ∃ y, (TT 64 pp x8 x5 x6 x7)[(64 - 1)]? = some y := ⟨_, List.getElem?_eq_getElem (by rw [TT.len]; decide)⟩
        refine DoneW.step (ldC X149 hx hZ e149 f139 (j := (63 : Int32)) (x := (.int y2)) (by decide) (by rw [show ((63 : Int32)).toNatClampNeg = (64 - 1) from by decide, List.getElem?_map, hy2]; rfl) (g := (mkF m 681 #[vi p1, vi p2, vi p3, vi p4, vi p5, vi x5, vi x6, vi x7, vi x8, vi x9, vr b127, vu, vr a12, vi x101] [(.int 63), (.ref a12)])) rfl rfl (hb hby at_681)) ?_
        show DoneW p e below s _ _ _ (T149.setTop (mkF m 682 #[vi p1, vi p2, vi p3, vi p4, vi p5, vi x5, vi x6, vi x7, vi x8, vi x9, vr b127, vu, vr a12, vi x101] [(.int y2)]))
        obtain ⟨v150, _, ⟨T150, L150, k150, n150⟩, -, X150, ⟨Lc150, hQ150, l150, y150, z150⟩, st150⟩ := Jvm.LawKit.callS X149 hx (y := (⟨"com/example/stowage/stowage/model/NamesIsNamePinLaw", "ok", "(C)Z"⟩ : MethodName)) hown (mvT hZ (tw44 hw)) (mvT hZ (tw45 hw)) (mvT hZ (tw46 hw)) (mvT hZ (tw47 hw)) (by decide) (backOf (W := 0) (rm9 l Z a0 hw [] y2 T138.heap n0 Zk138 ) hZ (tw47 hw) (tw46 hw) (by decide) (by decide)) (g := (mkF m 682 #[vi p1, vi p2, vi p3, vi p4, vi p5, vi x5, vi x6, vi x7, vi x8, vi x9, vr b127, vu, vr a12, vi x101] [(.int y2)])) rfl (by rw [hml]; rfl) (argsL := [(.int y2)]) (rest := []) (lenOf pd_19 rfl) rfl (by show 2 * 0 + _ ≤ _; exact Nat.le_of_eq rfl) (hb hby at_682) (fun _ _ => ⟨rfl, e149, (by decide : 4 + 0 ≤ _), (by decide : 263 + 0 ≤ _)⟩)
        dsimp only [Pt.U, Pt.locs, Pt.cells, Pt.slots] at X150 l150 y150 z150 st150 hQ150
        subst l150 y150 z150
        refine DoneW.step st150 ?_
        obtain ⟨rfl, N150q, e150⟩ := hQ150
        have N150 := Fr.app N149 N150q
        show DoneW p e below s _ _ _ (T150.setTop (mkF m 685 #[vi p1, vi p2, vi p3, vi p4, vi p5, vi x5, vi x6, vi x7, vi x8, vi x9, vr b127, vu, vr a12, vi x101] [(.int (F9 y2))]))
        by_cases c4 : (F9 y2) = (0 : Int32)
        · refine DoneW.step (fun t k => XS.ifYes X150.here hx rfl (pc0 := 685) (pc' := 692) rfl (hb hby at_685) rfl ((if0 _ _).trans (teq c4).1) (by decide) (by decide) k) ?_
          show DoneW p e below s _ _ _ (T150.setTop (mkF m 692 #[vi p1, vi p2, vi p3, vi p4, vi p5, vi x5, vi x6, vi x7, vi x8, vi x9, vr b127, vu, vr a12, vi x101] []))
          refine DoneW.step (fun t k => XS.iconst X150.here hx rfl (hb hby at_692) k) ?_
          show DoneW p e below s _ _ _ (T150.setTop (mkF m 693 #[vi p1, vi p2, vi p3, vi p4, vi p5, vi x5, vi x6, vi x7, vi x8, vi x9, vr b127, vu, vr a12, vi x101] [(.int 0)]))
          refine DoneW.step (fun t k => XS.istore X150.here hx rfl (hb hby at_693) rfl (l' := #[vi p1, vi p2, vi p3, vi p4, vi p5, vi x5, vi x6, vi x7, vi x8, vi x9, vr b127, vi 0, vr a12, vi x101]) rfl k) ?_
          show DoneW p e below s _ _ _ (T150.setTop (mkF m 695 #[vi p1, vi p2, vi p3, vi p4, vi p5, vi x5, vi x6, vi x7, vi x8, vi x9, vr b127, vi 0, vr a12, vi x101] []))
          refine DoneW.step (fun t k => XS.goto X150.here hx rfl (pc0 := 695) (pc' := 1130) rfl (hb hby at_695) (by decide) (by decide) k) ?_
          show DoneW p e below s _ _ _ (T150.setTop (mkF m 1130 #[vi p1, vi p2, vi p3, vi p4, vi p5, vi x5, vi x6, vi x7, vi x8, vi x9, vr b127, vi 0, vr a12, vi x101] []))
          exact blk1130 p1 p2 p3 p4 p5 x5 x6 x7 x8 x9 b127 (0 : Int32) (vr a12 : Slot) (vi x101 : Slot) vb138 kk138 vs138 mI138 nI138 cs sv (TT 64 pp x8 x5 x6 x7) (X150.mono (by decide) (by decide)) hx hZ hw hby hml hown hlk hret hnm N150 Zk138 e150 f146 xF138 xG138 xA138 hD138 f141 f142 hsv f143 f144 f145 hcs (own_mz hD138 (by rw [TT.len]; decide)) ((own_in hD138.2.2.2.1 (by rw [TT.len]; decide)).trans (own_moF _ _ (List.mem_of_getElem? hy2) c4))
        · refine DoneW.step (fun t k => XS.ifNo X150.here hx rfl (hb hby at_685) rfl ((if0 _ _).trans (feq c4).1) k) ?_
          show DoneW p e below s _ _ _ (T150.setTop (mkF m 688 #[vi p1, vi p2, vi p3, vi p4, vi p5, vi x5, vi x6, vi x7, vi x8, vi x9, vr b127, vu, vr a12, vi x101] []))
          refine DoneW.step (fun t k => XS.iconst X150.here hx rfl (hb hby at_688) k) ?_
          show DoneW p e below s _ _ _ (T150.setTop (mkF m 689 #[vi p1, vi p2, vi p3, vi p4, vi p5, vi x5, vi x6, vi x7, vi x8, vi x9, vr b127, vu, vr a12, vi x101] [(.int 1)]))
          refine DoneW.step (fun t k => XS.goto X150.here hx rfl (pc0 := 689) (pc' := 693) rfl (hb hby at_689) (by decide) (by decide) k) ?_
          show DoneW p e below s _ _ _ (T150.setTop (mkF m 693 #[vi p1, vi p2, vi p3, vi p4, vi p5, vi x5, vi x6, vi x7, vi x8, vi x9, vr b127, vu, vr a12, vi x101] [(.int 1)]))
          refine DoneW.step (fun t k => XS.istore X150.here hx rfl (hb hby at_693) rfl (l' := #[vi p1, vi p2, vi p3, vi p4, vi p5, vi x5, vi x6, vi x7, vi x8, vi x9, vr b127, vi 1, vr a12, vi x101]) rfl k) ?_
          show DoneW p e below s _ _ _ (T150.setTop (mkF m 695 #[vi p1, vi p2, vi p3, vi p4, vi p5, vi x5, vi x6, vi x7, vi x8, vi x9, vr b127, vi 1, vr a12, vi x101] []))
          refine DoneW.step (fun t k => XS.goto X150.here hx rfl (pc0 := 695) (pc' := 1130) rfl (hb hby at_695) (by decide) (by decide) k) ?_
          show DoneW p e below s _ _ _ (T150.setTop (mkF m 1130 #[vi p1, vi p2, vi p3, vi p4, vi p5, vi x5, vi x6, vi x7, vi x8, vi x9, vr b127, vi 1, vr a12, vi x101] []))
          exact blk1130 p1 p2 p3 p4 p5 x5 x6 x7 x8 x9 b127 (1 : Int32) (vr a12 : Slot) (vi x101 : Slot) vb138 kk138 vs138 mI138 nI138 cs sv (TT 64 pp x8 x5 x6 x7) (X150.mono (by decide) (by decide)) hx hZ hw hby hml hown hlk hret hnm N150 Zk138 e150 f146 xF138 xG138 xA138 hD138 f141 f142 hsv f143 f144 f145 hcs (own_mz hD138 (by rw [TT.len]; decide)) ((own_in hD138.2.2.2.1 (by rw [TT.len]; decide)).trans (TT.all c1 c2 c3 c4 hy0 hy1 hy2))
set_option maxRecDepth 65536 in
set_option maxHeartbeats 40000000 in
theorem fill559 {p : Program} {l : Launch} {e : Env} {s : State} {m : MethodId} {args : Array Value} {below : List Frame} {meth : Method} {c : Code} {T : State} {locs : List Loc} {Z : State} {a0 : Array Value} {h0 : Heap} {n0 : Nat} (p1 p2 p3 p4 p5 x5 x6 x7 x8 x9 : Int32) (a12 : Addr) (cs : Int32) (sv : Value)
    (X0 : Stand p l e room_1 s m args below meth c T locs 1 64) (hx : p.tables.exec = Jvm.exec) (hZ : Z.Warmed39 s.vm) (hw : HH a0 Z) (hby : c.code = code) (hml : c.maxLocals = 14) (hown : s.vm.findClass "com/example/stowage/stowage/model/NamesIsNamePinLaw" = some m.cls) (hlk : meth.locks = false) (hret : meth.sig.returnType = ret) (hnm : meth.name = "law") (N0 : Fr n0 locs) (Z0 : n0 ≤ h0.size) (e0 : T.heap = h0) (A12 : Ax Z h0 a12 .char ((RR 64 56 x8).map Value.int)) (E12 : Fl4 Z h0 a12) (g12 : n0 ≤ a12) (Scs : Sta Z h0 "java/lang/String" "COMPACT_STRINGS" "Z" (.int cs)) (Ssx : Sta Z h0 "jdk/internal/util/Preconditions" "SIOOBE_FORMATTER" "Ljava/util/function/BiFunction;" sv) (hsv : sv.isRef = true) (Sad : Sta Z h0 "java/lang/StringUTF16" "$assertionsDisabled" "Z" (.int 1)) (Shi : Sta Z h0 "java/lang/StringUTF16" "HI_BYTE_SHIFT" "I" (.int 0)) (Slo : Sta Z h0 "java/lang/StringUTF16" "LO_BYTE_SHIFT" "I" (.int 8)) (hcs : ¬ cs = (0 : Int32)) (hr5 : 0 ≤ x5.toInt ∧ x5.toInt < 65536) (hr6 : 0 ≤ x6.toInt ∧ x6.toInt < 65536) (hr7 : 0 ≤ x7.toInt ∧ x7.toInt < 65536) (hr8 : 0 ≤ x8.toInt ∧ x8.toInt < 65536) (hc5 : nar .char x5 = x5) (hc6 : nar .char x6 = x6) (hc7 : nar .char x7 = x7) (hc8 : nar .char x8 = x8) :
    DoneW p e below s (fun v h L => v = some (.int 1) ∧ Fr n0 L) room_1.cells room_1.slots (T.setTop (mkF m 559 #[vi p1, vi p2, vi p3, vi p4, vi p5, vi x5, vi x6, vi x7, vi x8, vi x9, vu, vu, vu, vu] [(.ref a12)])) := by
  show DoneW p e below s _ _ _ (T.setTop (mkF m 559 #[vi p1, vi p2, vi p3, vi p4, vi p5, vi x5, vi x6, vi x7, vi x8, vi x9, vu, vu, vu, vu] [(.ref a12)]))
  refine DoneW.step (fun t k => XS.dup X0.here hx rfl (hb hby at_559) rfl rfl k) ?_
  show DoneW p e below s _ _ _ (T.setTop (mkF m 560 #[vi p1, vi p2, vi p3, vi p4, vi p5, vi x5, vi x6, vi x7, vi x8, vi x9, vu, vu, vu, vu] [(.ref a12), (.ref a12)]))
  refine DoneW.step (fun t k => XS.bipush X0.here hx rfl (hb hby at_560) k) ?_
  show DoneW p e below s _ _ _ (T.setTop (mkF m 562 #[vi p1, vi p2, vi p3, vi p4, vi p5, vi x5, vi x6, vi x7, vi x8, vi x9, vu, vu, vu, vu] [(.int 56), (.ref a12), (.ref a12)]))
  refine DoneW.step (fun t k => XS.iload X0.here hx rfl (hb hby at_562) rfl k) ?_
  show DoneW p e below s _ _ _ (T.setTop (mkF m 564 #[vi p1, vi p2, vi p3, vi p4, vi p5, vi x5, vi x6, vi x7, vi x8, vi x9, vu, vu, vu, vu] [(.int x8), (.int 56), (.ref a12), (.ref a12)]))
  obtain ⟨T101, h101, X101, e101, W101, A101, st101⟩ := stoC X0 hx hZ e0 A12 (j := (56 : Int32)) (by decide) (i := 56) (by decide) (by rw [List.length_map, RR.len (by decide)]; decide) (g := (mkF m 564 #[vi p1, vi p2, vi p3, vi p4, vi p5, vi x5, vi x6, vi x7, vi x8, vi x9, vu, vu, vu, vu] [(.int x8), (.int 56), (.ref a12), (.ref a12)])) rfl rfl (hb hby at_564)
  have f102 : Ax Z h101 a12 .char ((RR 64 57 x8).map Value.int) := (by have q := A101; rw [own_rr (by decide) hc8] at q; exact q)
  have f103 := E12.wr W101
  have f104 := Scs.wr W101
  have f105 := Ssx.wr W101
  have f106 := Sad.wr W101
  have f107 := Shi.wr W101
  have f108 := Slo.wr W101
  have Z101 := Nat.le_trans Z0 (Keep.of_wr W101).1
  have N101 := Fr.snoc X101 N0 g12
  refine DoneW.step st101 ?_
  show DoneW p e below s _ _ _ (T101.setTop (mkF m 565 #[vi p1, vi p2, vi p3, vi p4, vi p5, vi x5, vi x6, vi x7, vi x8, vi x9, vu, vu, vu, vu] [(.ref a12)]))
  refine DoneW.step (fun t k => XS.dup X101.here hx rfl (hb hby at_565) rfl rfl k) ?_
  show DoneW p e below s _ _ _ (T101.setTop (mkF m 566 #[vi p1, vi p2, vi p3, vi p4, vi p5, vi x5, vi x6, vi x7, vi x8, vi x9, vu, vu, vu, vu] [(.ref a12), (.ref a12)]))
  refine DoneW.step (fun t k => XS.bipush X101.here hx rfl (hb hby at_566) k) ?_
  show DoneW p e below s _ _ _ (T101.setTop (mkF m 568 #[vi p1, vi p2, vi p3, vi p4, vi p5, vi x5, vi x6, vi x7, vi x8, vi x9, vu, vu, vu, vu] [(.int 57), (.ref a12), (.ref a12)]))
  refine DoneW.step (fun t k => XS.iload X101.here hx rfl (hb hby at_568) rfl k) ?_
  show DoneW p e below s _ _ _ (T101.setTop (mkF m 570 #[vi p1, vi p2, vi p3, vi p4, vi p5, vi x5, vi x6, vi x7, vi x8, vi x9, vu, vu, vu, vu] [(.int x8), (.int 57), (.ref a12), (.ref a12)]))
  obtain ⟨T109, h109, X109, e109, W109, A109, st109⟩ := stoC X101 hx hZ e101 f102 (j := (57 : Int32)) (by decide) (i := 57) (by decide) (by rw [List.length_map, RR.len (by decide)]; decide) (g := (mkF m 570 #[vi p1, vi p2, vi p3, vi p4, vi p5, vi x5, vi x6, vi x7, vi x8, vi x9, vu, vu, vu, vu] [(.int x8), (.int 57), (.ref a12), (.ref a12)])) rfl rfl (hb hby at_570)
  have f110 : Ax Z h109 a12 .char ((RR 64 58 x8).map Value.int) := (by have q := A109; rw [own_rr (by decide) hc8] at q; exact q)
  have f111 := f103.wr W109
  have f112 := f104.wr W109
  have f113 := f105.wr W109
  have f114 := f106.wr W109
  have f115 := f107.wr W109
  have f116 := f108.wr W109
  have Z109 := Nat.le_trans Z101 (Keep.of_wr W109).1
  have N109 := Fr.snoc X109 N101 g12
  refine DoneW.step st109 ?_
  show DoneW p e below s _ _ _ (T109.setTop (mkF m 571 #[vi p1, vi p2, vi p3, vi p4, vi p5, vi x5, vi x6, vi x7, vi x8, vi x9, vu, vu, vu, vu] [(.ref a12)]))
  refine DoneW.step (fun t k => XS.dup X109.here hx rfl (hb hby at_571) rfl rfl k) ?_
  show DoneW p e below s _ _ _ (T109.setTop (mkF m 572 #[vi p1, vi p2, vi p3, vi p4, vi p5, vi x5, vi x6, vi x7, vi x8, vi x9, vu, vu, vu, vu] [(.ref a12), (.ref a12)]))
  refine DoneW.step (fun t k => XS.bipush X109.here hx rfl (hb hby at_572) k) ?_
  show DoneW p e below s _ _ _ (T109.setTop (mkF m 574 #[vi p1, vi p2, vi p3, vi p4, vi p5, vi x5, vi x6, vi x7, vi x8, vi x9, vu, vu, vu, vu] [(.int 58), (.ref a12), (.ref a12)]))
  refine DoneW.step (fun t k => XS.iload X109.here hx rfl (hb hby at_574) rfl k) ?_
  show DoneW p e below s _ _ _ (T109.setTop (mkF m 576 #[vi p1, vi p2, vi p3, vi p4, vi p5, vi x5, vi x6, vi x7, vi x8, vi x9, vu, vu, vu, vu] [(.int x8), (.int 58), (.ref a12), (.ref a12)]))
  obtain ⟨T117, h117, X117, e117, W117, A117, st117⟩ := stoC X109 hx hZ e109 f110 (j := (58 : Int32)) (by decide) (i := 58) (by decide) (by rw [List.length_map, RR.len (by decide)]; decide) (g := (mkF m 576 #[vi p1, vi p2, vi p3, vi p4, vi p5, vi x5, vi x6, vi x7, vi x8, vi x9, vu, vu, vu, vu] [(.int x8), (.int 58), (.ref a12), (.ref a12)])) rfl rfl (hb hby at_576)
  have f118 : Ax Z h117 a12 .char ((RR 64 59 x8).map Value.int) := (by have q := A117; rw [own_rr (by decide) hc8] at q; exact q)
  have f119 := f111.wr W117
  have f120 := f112.wr W117
  have f121 := f113.wr W117
  have f122 := f114.wr W117
  have f123 := f115.wr W117
  have f124 := f116.wr W117
  have Z117 := Nat.le_trans Z109 (Keep.of_wr W117).1
  have N117 := Fr.snoc X117 N109 g12
  refine DoneW.step st117 ?_
  show DoneW p e below s _ _ _ (T117.setTop (mkF m 577 #[vi p1, vi p2, vi p3, vi p4, vi p5, vi x5, vi x6, vi x7, vi x8, vi x9, vu, vu, vu, vu] [(.ref a12)]))
  refine DoneW.step (fun t k => XS.dup X117.here hx rfl (hb hby at_577) rfl rfl k) ?_
  show DoneW p e below s _ _ _ (T117.setTop (mkF m 578 #[vi p1, vi p2, vi p3, vi p4, vi p5, vi x5, vi x6, vi x7, vi x8, vi x9, vu, vu, vu, vu] [(.ref a12), (.ref a12)]))
  refine DoneW.step (fun t k => XS.bipush X117.here hx rfl (hb hby at_578) k) ?_
  show DoneW p e below s _ _ _ (T117.setTop (mkF m 580 #[vi p1, vi p2, vi p3, vi p4, vi p5, vi x5, vi x6, vi x7, vi x8, vi x9, vu, vu, vu, vu] [(.int 59), (.ref a12), (.ref a12)]))
  refine DoneW.step (fun t k => XS.iload X117.here hx rfl (hb hby at_580) rfl k) ?_
  show DoneW p e below s _ _ _ (T117.setTop (mkF m 582 #[vi p1, vi p2, vi p3, vi p4, vi p5, vi x5, vi x6, vi x7, vi x8, vi x9, vu, vu, vu, vu] [(.int x8), (.int 59), (.ref a12), (.ref a12)]))
  obtain ⟨T125, h125, X125, e125, W125, A125, st125⟩ := stoC X117 hx hZ e117 f118 (j := (59 : Int32)) (by decide) (i := 59) (by decide) (by rw [List.length_map, RR.len (by decide)]; decide) (g := (mkF m 582 #[vi p1, vi p2, vi p3, vi p4, vi p5, vi x5, vi x6, vi x7, vi x8, vi x9, vu, vu, vu, vu] [(.int x8), (.int 59), (.ref a12), (.ref a12)])) rfl rfl (hb hby at_582)
  have f126 : Ax Z h125 a12 .char ((RR 64 60 x8).map Value.int) := (by have q := A125; rw [own_rr (by decide) hc8] at q; exact q)
  have f127 := f119.wr W125
  have f128 := f120.wr W125
  have f129 := f121.wr W125
  have f130 := f122.wr W125
  have f131 := f123.wr W125
  have f132 := f124.wr W125
  have Z125 := Nat.le_trans Z117 (Keep.of_wr W125).1
  have N125 := Fr.snoc X125 N117 g12
  refine DoneW.step st125 ?_
  show DoneW p e below s _ _ _ (T125.setTop (mkF m 583 #[vi p1, vi p2, vi p3, vi p4, vi p5, vi x5, vi x6, vi x7, vi x8, vi x9, vu, vu, vu, vu] [(.ref a12)]))
  refine DoneW.step (fun t k => XS.dup X125.here hx rfl (hb hby at_583) rfl rfl k) ?_
  show DoneW p e below s _ _ _ (T125.setTop (mkF m 584 #[vi p1, vi p2, vi p3, vi p4, vi p5, vi x5, vi x6, vi x7, vi x8, vi x9, vu, vu, vu, vu] [(.ref a12), (.ref a12)]))
  refine DoneW.step (fun t k => XS.bipush X125.here hx rfl (hb hby at_584) k) ?_
  show DoneW p e below s _ _ _ (T125.setTop (mkF m 586 #[vi p1, vi p2, vi p3, vi p4, vi p5, vi x5, vi x6, vi x7, vi x8, vi x9, vu, vu, vu, vu] [(.int 60), (.ref a12), (.ref a12)]))
  refine DoneW.step (fun t k => XS.iload X125.here hx rfl (hb hby at_586) rfl k) ?_
  show DoneW p e below s _ _ _ (T125.setTop (mkF m 588 #[vi p1, vi p2, vi p3, vi p4, vi p5, vi x5, vi x6, vi x7, vi x8, vi x9, vu, vu, vu, vu] [(.int x8), (.int 60), (.ref a12), (.ref a12)]))
  obtain ⟨T133, h133, X133, e133, W133, A133, st133⟩ := stoC X125 hx hZ e125 f126 (j := (60 : Int32)) (by decide) (i := 60) (by decide) (by rw [List.length_map, RR.len (by decide)]; decide) (g := (mkF m 588 #[vi p1, vi p2, vi p3, vi p4, vi p5, vi x5, vi x6, vi x7, vi x8, vi x9, vu, vu, vu, vu] [(.int x8), (.int 60), (.ref a12), (.ref a12)])) rfl rfl (hb hby at_588)
  have f134 : Ax Z h133 a12 .char ((RR 64 61 x8).map Value.int) := (by have q := A133; rw [own_rr (by decide) hc8] at q; exact q)
  have f135 := f127.wr W133
  have f136 := f128.wr W133
  have f137 := f129.wr W133
  have f138 := f130.wr W133
  have f139 := f131.wr W133
  have f140 := f132.wr W133
  have Z133 := Nat.le_trans Z125 (Keep.of_wr W133).1
  have N133 := Fr.snoc X133 N125 g12
  refine DoneW.step st133 ?_
  show DoneW p e below s _ _ _ (T133.setTop (mkF m 589 #[vi p1, vi p2, vi p3, vi p4, vi p5, vi x5, vi x6, vi x7, vi x8, vi x9, vu, vu, vu, vu] [(.ref a12)]))
  refine DoneW.step (fun t k => XS.dup X133.here hx rfl (hb hby at_589) rfl rfl k) ?_
  show DoneW p e below s _ _ _ (T133.setTop (mkF m 590 #[vi p1, vi p2, vi p3, vi p4, vi p5, vi x5, vi x6, vi x7, vi x8, vi x9, vu, vu, vu, vu] [(.ref a12), (.ref a12)]))
  refine DoneW.step (fun t k => XS.bipush X133.here hx rfl (hb hby at_590) k) ?_
  show DoneW p e below s _ _ _ (T133.setTop (mkF m 592 #[vi p1, vi p2, vi p3, vi p4, vi p5, vi x5, vi x6, vi x7, vi x8, vi x9, vu, vu, vu, vu] [(.int 61), (.ref a12), (.ref a12)]))
  refine DoneW.step (fun t k => XS.iload X133.here hx rfl (hb hby at_592) rfl k) ?_
  show DoneW p e below s _ _ _ (T133.setTop (mkF m 594 #[vi p1, vi p2, vi p3, vi p4, vi p5, vi x5, vi x6, vi x7, vi x8, vi x9, vu, vu, vu, vu] [(.int x8), (.int 61), (.ref a12), (.ref a12)]))
  obtain ⟨T141, h141, X141, e141, W141, A141, st141⟩ := stoC X133 hx hZ e133 f134 (j := (61 : Int32)) (by decide) (i := 61) (by decide) (by rw [List.length_map, RR.len (by decide)]; decide) (g := (mkF m 594 #[vi p1, vi p2, vi p3, vi p4, vi p5, vi x5, vi x6, vi x7, vi x8, vi x9, vu, vu, vu, vu] [(.int x8), (.int 61), (.ref a12), (.ref a12)])) rfl rfl (hb hby at_594)
  have f142 : Ax Z h141 a12 .char ((RR 64 62 x8).map Value.int) := (by have q := A141; rw [own_rr (by decide) hc8] at q; exact q)
  have f143 := f135.wr W141
  have f144 := f136.wr W141
  have f145 := f137.wr W141
  have f146 := f138.wr W141
  have f147 := f139.wr W141
  have f148 := f140.wr W141
  have Z141 := Nat.le_trans Z133 (Keep.of_wr W141).1
  have N141 := Fr.snoc X141 N133 g12
  refine DoneW.step st141 ?_
  show DoneW p e below s _ _ _ (T141.setTop (mkF m 595 #[vi p1, vi p2, vi p3, vi p4, vi p5, vi x5, vi x6, vi x7, vi x8, vi x9, vu, vu, vu, vu] [(.ref a12)]))
  refine DoneW.step (fun t k => XS.dup X141.here hx rfl (hb hby at_595) rfl rfl k) ?_
  show DoneW p e below s _ _ _ (T141.setTop (mkF m 596 #[vi p1, vi p2, vi p3, vi p4, vi p5, vi x5, vi x6, vi x7, vi x8, vi x9, vu, vu, vu, vu] [(.ref a12), (.ref a12)]))
  refine DoneW.step (fun t k => XS.bipush X141.here hx rfl (hb hby at_596) k) ?_
  show DoneW p e below s _ _ _ (T141.setTop (mkF m 598 #[vi p1, vi p2, vi p3, vi p4, vi p5, vi x5, vi x6, vi x7, vi x8, vi x9, vu, vu, vu, vu] [(.int 62), (.ref a12), (.ref a12)]))
  refine DoneW.step (fun t k => XS.iload X141.here hx rfl (hb hby at_598) rfl k) ?_
  show DoneW p e below s _ _ _ (T141.setTop (mkF m 600 #[vi p1, vi p2, vi p3, vi p4, vi p5, vi x5, vi x6, vi x7, vi x8, vi x9, vu, vu, vu, vu] [(.int x8), (.int 62), (.ref a12), (.ref a12)]))
  obtain ⟨T149, h149, X149, e149, W149, A149, st149⟩ := stoC X141 hx hZ e141 f142 (j := (62 : Int32)) (by decide) (i := 62) (by decide) (by rw [List.length_map, RR.len (by decide)]; decide) (g := (mkF m 600 #[vi p1, vi p2, vi p3, vi p4, vi p5, vi x5, vi x6, vi x7, vi x8, vi x9, vu, vu, vu, vu] [(.int x8), (.int 62), (.ref a12), (.ref a12)])) rfl rfl (hb hby at_600)
  have f150 : Ax Z h149 a12 .char ((RR 64 63 x8).map Value.int) := (by have q := A149; rw [own_rr (by decide) hc8] at q; exact q)
  have f151 := f143.wr W149
  have f152 := f144.wr W149
  have f153 := f145.wr W149
  have f154 := f146.wr W149
  have f155 := f147.wr W149
  have f156 := f148.wr W149
  have Z149 := Nat.le_trans Z141 (Keep.of_wr W149).1
  have N149 := Fr.snoc X149 N141 g12
  refine DoneW.step st149 ?_
  show DoneW p e below s _ _ _ (T149.setTop (mkF m 601 #[vi p1, vi p2, vi p3, vi p4, vi p5, vi x5, vi x6, vi x7, vi x8, vi x9, vu, vu, vu, vu] [(.ref a12)]))
  refine DoneW.step (fun t k => XS.dup X149.here hx rfl (hb hby at_601) rfl rfl k) ?_
  show DoneW p e below s _ _ _ (T149.setTop (mkF m 602 #[vi p1, vi p2, vi p3, vi p4, vi p5, vi x5, vi x6, vi x7, vi x8, vi x9, vu, vu, vu, vu] [(.ref a12), (.ref a12)]))
  refine DoneW.step (fun t k => XS.bipush X149.here hx rfl (hb hby at_602) k) ?_
  show DoneW p e below s _ _ _ (T149.setTop (mkF m 604 #[vi p1, vi p2, vi p3, vi p4, vi p5, vi x5, vi x6, vi x7, vi x8, vi x9, vu, vu, vu, vu] [(.int 63), (.ref a12), (.ref a12)]))
  refine DoneW.step (fun t k => XS.iload X149.here hx rfl (hb hby at_604) rfl k) ?_
  show DoneW p e below s _ _ _ (T149.setTop (mkF m 606 #[vi p1, vi p2, vi p3, vi p4, vi p5, vi x5, vi x6, vi x7, vi x8, vi x9, vu, vu, vu, vu] [(.int x8), (.int 63), (.ref a12), (.ref a12)]))
  obtain ⟨T157, h157, X157, e157, W157, A157, st157⟩ := stoC X149 hx hZ e149 f150 (j := (63 : Int32)) (by decide) (i := 63) (by decide) (by rw [List.length_map, RR.len (by decide)]; decide) (g := (mkF m 606 #[vi p1, vi p2, vi p3, vi p4, vi p5, vi x5, vi x6, vi x7, vi x8, vi x9, vu, vu, vu, vu] [(.int x8), (.int 63), (.ref a12), (.ref a12)])) rfl rfl (hb hby at_606)
  have f158 : Ax Z h157 a12 .char ((RR 64 64 x8).map Value.int) := (by have q := A157; rw [own_rr (by decide) hc8] at q; exact q)
  have f159 := f151.wr W157
  have f160 := f152.wr W157
  have f161 := f153.wr W157
  have f162 := f154.wr W157
  have f163 := f155.wr W157
  have f164 := f156.wr W157
  have Z157 := Nat.le_trans Z149 (Keep.of_wr W157).1
  have N157 := Fr.snoc X157 N149 g12
  refine DoneW.step st157 ?_
  show DoneW p e below s _ _ _ (T157.setTop (mkF m 607 #[vi p1, vi p2, vi p3, vi p4, vi p5, vi x5, vi x6, vi x7, vi x8, vi x9, vu, vu, vu, vu] [(.ref a12)]))
  exact fill607 p1 p2 p3 p4 p5 x5 x6 x7 x8 x9 a12 cs sv X157 hx hZ hw hby hml hown hlk hret hnm N157 Z157 e157 f158 f159 g12 f160 f161 hsv f162 f163 f164 hcs hr5 hr6 hr7 hr8 hc5 hc6 hc7 hc8
set_option maxRecDepth 65536 in
set_option maxHeartbeats 40000000 in
theorem fill511 {p : Program} {l : Launch} {e : Env} {s : State} {m : MethodId} {args : Array Value} {below : List Frame} {meth : Method} {c : Code} {T : State} {locs : List Loc} {Z : State} {a0 : Array Value} {h0 : Heap} {n0 : Nat} (p1 p2 p3 p4 p5 x5 x6 x7 x8 x9 : Int32) (a12 : Addr) (cs : Int32) (sv : Value)
    (X0 : Stand p l e room_1 s m args below meth c T locs 1 64) (hx : p.tables.exec = Jvm.exec) (hZ : Z.Warmed39 s.vm) (hw : HH a0 Z) (hby : c.code = code) (hml : c.maxLocals = 14) (hown : s.vm.findClass "com/example/stowage/stowage/model/NamesIsNamePinLaw" = some m.cls) (hlk : meth.locks = false) (hret : meth.sig.returnType = ret) (hnm : meth.name = "law") (N0 : Fr n0 locs) (Z0 : n0 ≤ h0.size) (e0 : T.heap = h0) (A12 : Ax Z h0 a12 .char ((RR 64 48 x8).map Value.int)) (E12 : Fl4 Z h0 a12) (g12 : n0 ≤ a12) (Scs : Sta Z h0 "java/lang/String" "COMPACT_STRINGS" "Z" (.int cs)) (Ssx : Sta Z h0 "jdk/internal/util/Preconditions" "SIOOBE_FORMATTER" "Ljava/util/function/BiFunction;" sv) (hsv : sv.isRef = true) (Sad : Sta Z h0 "java/lang/StringUTF16" "$assertionsDisabled" "Z" (.int 1)) (Shi : Sta Z h0 "java/lang/StringUTF16" "HI_BYTE_SHIFT" "I" (.int 0)) (Slo : Sta Z h0 "java/lang/StringUTF16" "LO_BYTE_SHIFT" "I" (.int 8)) (hcs : ¬ cs = (0 : Int32)) (hr5 : 0 ≤ x5.toInt ∧ x5.toInt < 65536) (hr6 : 0 ≤ x6.toInt ∧ x6.toInt < 65536) (hr7 : 0 ≤ x7.toInt ∧ x7.toInt < 65536) (hr8 : 0 ≤ x8.toInt ∧ x8.toInt < 65536) (hc5 : nar .char x5 = x5) (hc6 : nar .char x6 = x6) (hc7 : nar .char x7 = x7) (hc8 : nar .char x8 = x8) :
    DoneW p e below s (fun v h L => v = some (.int 1) ∧ Fr n0 L) room_1.cells room_1.slots (T.setTop (mkF m 511 #[vi p1, vi p2, vi p3, vi p4, vi p5, vi x5, vi x6, vi x7, vi x8, vi x9, vu, vu, vu, vu] [(.ref a12)])) := by
  show DoneW p e below s _ _ _ (T.setTop (mkF m 511 #[vi p1, vi p2, vi p3, vi p4, vi p5, vi x5, vi x6, vi x7, vi x8, vi x9, vu, vu, vu, vu] [(.ref a12)]))
  refine DoneW.step (fun t k => XS.dup X0.here hx rfl (hb hby at_511) rfl rfl k) ?_
  show DoneW p e below s _ _ _ (T.setTop (mkF m 512 #[vi p1, vi p2, vi p3, vi p4, vi p5, vi x5, vi x6, vi x7, vi x8, vi x9, vu, vu, vu, vu] [(.ref a12), (.ref a12)]))
  refine DoneW.step (fun t k => XS.bipush X0.here hx rfl (hb hby at_512) k) ?_
  show DoneW p e below s _ _ _ (T.setTop (mkF m 514 #[vi p1, vi p2, vi p3, vi p4, vi p5, vi x5, vi x6, vi x7, vi x8, vi x9, vu, vu, vu, vu] [(.int 48), (.ref a12), (.ref a12)]))
  refine DoneW.step (fun t k => XS.iload X0.here hx rfl (hb hby at_514) rfl k) ?_
  show DoneW p e below s _ _ _ (T.setTop (mkF m 516 #[vi p1, vi p2, vi p3, vi p4, vi p5, vi x5, vi x6, vi x7, vi x8, vi x9, vu, vu, vu, vu] [(.int x8), (.int 48), (.ref a12), (.ref a12)]))
  obtain ⟨T101, h101, X101, e101, W101, A101, st101⟩ := stoC X0 hx hZ e0 A12 (j := (48 : Int32)) (by decide) (i := 48) (by decide) (by rw [List.length_map, RR.len (by decide)]; decide) (g := (mkF m 516 #[vi p1, vi p2, vi p3, vi p4, vi p5, vi x5, vi x6, vi x7, vi x8, vi x9, vu, vu, vu, vu] [(.int x8), (.int 48), (.ref a12), (.ref a12)])) rfl rfl (hb hby at_516)
  have f102 : Ax Z h101 a12 .char ((RR 64 49 x8).map Value.int) := (by have q := A101; rw [own_rr (by decide) hc8] at q; exact q)
  have f103 := E12.wr W101
  have f104 := Scs.wr W101
  have f105 := Ssx.wr W101
  have f106 := Sad.wr W101
  have f107 := Shi.wr W101
  have f108 := Slo.wr W101
  have Z101 := Nat.le_trans Z0 (Keep.of_wr W101).1
  have N101 := Fr.snoc X101 N0 g12
  refine DoneW.step st101 ?_
  show DoneW p e below s _ _ _ (T101.setTop (mkF m 517 #[vi p1, vi p2, vi p3, vi p4, vi p5, vi x5, vi x6, vi x7, vi x8, vi x9, vu, vu, vu, vu] [(.ref a12)]))
  refine DoneW.step (fun t k => XS.dup X101.here hx rfl (hb hby at_517) rfl rfl k) ?_
  show DoneW p e below s _ _ _ (T101.setTop (mkF m 518 #[vi p1, vi p2, vi p3, vi p4, vi p5, vi x5, vi x6, vi x7, vi x8, vi x9, vu, vu, vu, vu] [(.ref a12), (.ref a12)]))
  refine DoneW.step (fun t k => XS.bipush X101.here hx rfl (hb hby at_518) k) ?_
  show DoneW p e below s _ _ _ (T101.setTop (mkF m 520 #[vi p1, vi p2, vi p3, vi p4, vi p5, vi x5, vi x6, vi x7, vi x8, vi x9, vu, vu, vu, vu] [(.int 49), (.ref a12), (.ref a12)]))
  refine DoneW.step (fun t k => XS.iload X101.here hx rfl (hb hby at_520) rfl k) ?_
  show DoneW p e below s _ _ _ (T101.setTop (mkF m 522 #[vi p1, vi p2, vi p3, vi p4, vi p5, vi x5, vi x6, vi x7, vi x8, vi x9, vu, vu, vu, vu] [(.int x8), (.int 49), (.ref a12), (.ref a12)]))
  obtain ⟨T109, h109, X109, e109, W109, A109, st109⟩ := stoC X101 hx hZ e101 f102 (j := (49 : Int32)) (by decide) (i := 49) (by decide) (by rw [List.length_map, RR.len (by decide)]; decide) (g := (mkF m 522 #[vi p1, vi p2, vi p3, vi p4, vi p5, vi x5, vi x6, vi x7, vi x8, vi x9, vu, vu, vu, vu] [(.int x8), (.int 49), (.ref a12), (.ref a12)])) rfl rfl (hb hby at_522)
  have f110 : Ax Z h109 a12 .char ((RR 64 50 x8).map Value.int) := (by have q := A109; rw [own_rr (by decide) hc8] at q; exact q)
  have f111 := f103.wr W109
  have f112 := f104.wr W109
  have f113 := f105.wr W109
  have f114 := f106.wr W109
  have f115 := f107.wr W109
  have f116 := f108.wr W109
  have Z109 := Nat.le_trans Z101 (Keep.of_wr W109).1
  have N109 := Fr.snoc X109 N101 g12
  refine DoneW.step st109 ?_
  show DoneW p e below s _ _ _ (T109.setTop (mkF m 523 #[vi p1, vi p2, vi p3, vi p4, vi p5, vi x5, vi x6, vi x7, vi x8, vi x9, vu, vu, vu, vu] [(.ref a12)]))
  refine DoneW.step (fun t k => XS.dup X109.here hx rfl (hb hby at_523) rfl rfl k) ?_
  show DoneW p e below s _ _ _ (T109.setTop (mkF m 524 #[vi p1, vi p2, vi p3, vi p4, vi p5, vi x5, vi x6, vi x7, vi x8, vi x9, vu, vu, vu, vu] [(.ref a12), (.ref a12)]))
  refine DoneW.step (fun t k => XS.bipush X109.here hx rfl (hb hby at_524) k) ?_
  show DoneW p e below s _ _ _ (T109.setTop (mkF m 526 #[vi p1, vi p2, vi p3, vi p4, vi p5, vi x5, vi x6, vi x7, vi x8, vi x9, vu, vu, vu, vu] [(.int 50), (.ref a12), (.ref a12)]))
  refine DoneW.step (fun t k => XS.iload X109.here hx rfl (hb hby at_526) rfl k) ?_
  show DoneW p e below s _ _ _ (T109.setTop (mkF m 528 #[vi p1, vi p2, vi p3, vi p4, vi p5, vi x5, vi x6, vi x7, vi x8, vi x9, vu, vu, vu, vu] [(.int x8), (.int 50), (.ref a12), (.ref a12)]))
  obtain ⟨T117, h117, X117, e117, W117, A117, st117⟩ := stoC X109 hx hZ e109 f110 (j := (50 : Int32)) (by decide) (i := 50) (by decide) (by rw [List.length_map, RR.len (by decide)]; decide) (g := (mkF m 528 #[vi p1, vi p2, vi p3, vi p4, vi p5, vi x5, vi x6, vi x7, vi x8, vi x9, vu, vu, vu, vu] [(.int x8), (.int 50), (.ref a12), (.ref a12)])) rfl rfl (hb hby at_528)
  have f118 : Ax Z h117 a12 .char ((RR 64 51 x8).map Value.int) := (by have q := A117; rw [own_rr (by decide) hc8] at q; exact q)
  have f119 := f111.wr W117
  have f120 := f112.wr W117
  have f121 := f113.wr W117
  have f122 := f114.wr W117
  have f123 := f115.wr W117
  have f124 := f116.wr W117
  have Z117 := Nat.le_trans Z109 (Keep.of_wr W117).1
  have N117 := Fr.snoc X117 N109 g12
  refine DoneW.step st117 ?_
  show DoneW p e below s _ _ _ (T117.setTop (mkF m 529 #[vi p1, vi p2, vi p3, vi p4, vi p5, vi x5, vi x6, vi x7, vi x8, vi x9, vu, vu, vu, vu] [(.ref a12)]))
  refine DoneW.step (fun t k => XS.dup X117.here hx rfl (hb hby at_529) rfl rfl k) ?_
  show DoneW p e below s _ _ _ (T117.setTop (mkF m 530 #[vi p1, vi p2, vi p3, vi p4, vi p5, vi x5, vi x6, vi x7, vi x8, vi x9, vu, vu, vu, vu] [(.ref a12), (.ref a12)]))
  refine DoneW.step (fun t k => XS.bipush X117.here hx rfl (hb hby at_530) k) ?_
  show DoneW p e below s _ _ _ (T117.setTop (mkF m 532 #[vi p1, vi p2, vi p3, vi p4, vi p5, vi x5, vi x6, vi x7, vi x8, vi x9, vu, vu, vu, vu] [(.int 51), (.ref a12), (.ref a12)]))
  refine DoneW.step (fun t k => XS.iload X117.here hx rfl (hb hby at_532) rfl k) ?_
  show DoneW p e below s _ _ _ (T117.setTop (mkF m 534 #[vi p1, vi p2, vi p3, vi p4, vi p5, vi x5, vi x6, vi x7, vi x8, vi x9, vu, vu, vu, vu] [(.int x8), (.int 51), (.ref a12), (.ref a12)]))
  obtain ⟨T125, h125, X125, e125, W125, A125, st125⟩ := stoC X117 hx hZ e117 f118 (j := (51 : Int32)) (by decide) (i := 51) (by decide) (by rw [List.length_map, RR.len (by decide)]; decide) (g := (mkF m 534 #[vi p1, vi p2, vi p3, vi p4, vi p5, vi x5, vi x6, vi x7, vi x8, vi x9, vu, vu, vu, vu] [(.int x8), (.int 51), (.ref a12), (.ref a12)])) rfl rfl (hb hby at_534)
  have f126 : Ax Z h125 a12 .char ((RR 64 52 x8).map Value.int) := (by have q := A125; rw [own_rr (by decide) hc8] at q; exact q)
  have f127 := f119.wr W125
  have f128 := f120.wr W125
  have f129 := f121.wr W125
  have f130 := f122.wr W125
  have f131 := f123.wr W125
  have f132 := f124.wr W125
  have Z125 := Nat.le_trans Z117 (Keep.of_wr W125).1
  have N125 := Fr.snoc X125 N117 g12
  refine DoneW.step st125 ?_
  show DoneW p e below s _ _ _ (T125.setTop (mkF m 535 #[vi p1, vi p2, vi p3, vi p4, vi p5, vi x5, vi x6, vi x7, vi x8, vi x9, vu, vu, vu, vu] [(.ref a12)]))
  refine DoneW.step (fun t k => XS.dup X125.here hx rfl (hb hby at_535) rfl rfl k) ?_
  show DoneW p e below s _ _ _ (T125.setTop (mkF m 536 #[vi p1, vi p2, vi p3, vi p4, vi p5, vi x5, vi x6, vi x7, vi x8, vi x9, vu, vu, vu, vu] [(.ref a12), (.ref a12)]))
  refine DoneW.step (fun t k => XS.bipush X125.here hx rfl (hb hby at_536) k) ?_
  show DoneW p e below s _ _ _ (T125.setTop (mkF m 538 #[vi p1, vi p2, vi p3, vi p4, vi p5, vi x5, vi x6, vi x7, vi x8, vi x9, vu, vu, vu, vu] [(.int 52), (.ref a12), (.ref a12)]))
  refine DoneW.step (fun t k => XS.iload X125.here hx rfl (hb hby at_538) rfl k) ?_
  show DoneW p e below s _ _ _ (T125.setTop (mkF m 540 #[vi p1, vi p2, vi p3, vi p4, vi p5, vi x5, vi x6, vi x7, vi x8, vi x9, vu, vu, vu, vu] [(.int x8), (.int 52), (.ref a12), (.ref a12)]))
  obtain ⟨T133, h133, X133, e133, W133, A133, st133⟩ := stoC X125 hx hZ e125 f126 (j := (52 : Int32)) (by decide) (i := 52) (by decide) (by rw [List.length_map, RR.len (by decide)]; decide) (g := (mkF m 540 #[vi p1, vi p2, vi p3, vi p4, vi p5, vi x5, vi x6, vi x7, vi x8, vi x9, vu, vu, vu, vu] [(.int x8), (.int 52), (.ref a12), (.ref a12)])) rfl rfl (hb hby at_540)
  have f134 : Ax Z h133 a12 .char ((RR 64 53 x8).map Value.int) := (by have q := A133; rw [own_rr (by decide) hc8] at q; exact q)
  have f135 := f127.wr W133
  have f136 := f128.wr W133
  have f137 := f129.wr W133
  have f138 := f130.wr W133
  have f139 := f131.wr W133
  have f140 := f132.wr W133
  have Z133 := Nat.le_trans Z125 (Keep.of_wr W133).1
  have N133 := Fr.snoc X133 N125 g12
  refine DoneW.step st133 ?_
  show DoneW p e below s _ _ _ (T133.setTop (mkF m 541 #[vi p1, vi p2, vi p3, vi p4, vi p5, vi x5, vi x6, vi x7, vi x8, vi x9, vu, vu, vu, vu] [(.ref a12)]))
  refine DoneW.step (fun t k => XS.dup X133.here hx rfl (hb hby at_541) rfl rfl k) ?_
  show DoneW p e below s _ _ _ (T133.setTop (mkF m 542 #[vi p1, vi p2, vi p3, vi p4, vi p5, vi x5, vi x6, vi x7, vi x8, vi x9, vu, vu, vu, vu] [(.ref a12), (.ref a12)]))
  refine DoneW.step (fun t k => XS.bipush X133.here hx rfl (hb hby at_542) k) ?_
  show DoneW p e below s _ _ _ (T133.setTop (mkF m 544 #[vi p1, vi p2, vi p3, vi p4, vi p5, vi x5, vi x6, vi x7, vi x8, vi x9, vu, vu, vu, vu] [(.int 53), (.ref a12), (.ref a12)]))
  refine DoneW.step (fun t k => XS.iload X133.here hx rfl (hb hby at_544) rfl k) ?_
  show DoneW p e below s _ _ _ (T133.setTop (mkF m 546 #[vi p1, vi p2, vi p3, vi p4, vi p5, vi x5, vi x6, vi x7, vi x8, vi x9, vu, vu, vu, vu] [(.int x8), (.int 53), (.ref a12), (.ref a12)]))
  obtain ⟨T141, h141, X141, e141, W141, A141, st141⟩ := stoC X133 hx hZ e133 f134 (j := (53 : Int32)) (by decide) (i := 53) (by decide) (by rw [List.length_map, RR.len (by decide)]; decide) (g := (mkF m 546 #[vi p1, vi p2, vi p3, vi p4, vi p5, vi x5, vi x6, vi x7, vi x8, vi x9, vu, vu, vu, vu] [(.int x8), (.int 53), (.ref a12), (.ref a12)])) rfl rfl (hb hby at_546)
  have f142 : Ax Z h141 a12 .char ((RR 64 54 x8).map Value.int) := (by have q := A141; rw [own_rr (by decide) hc8] at q; exact q)
  have f143 := f135.wr W141
  have f144 := f136.wr W141
  have f145 := f137.wr W141
  have f146 := f138.wr W141
  have f147 := f139.wr W141
  have f148 := f140.wr W141
  have Z141 := Nat.le_trans Z133 (Keep.of_wr W141).1
  have N141 := Fr.snoc X141 N133 g12
  refine DoneW.step st141 ?_
  show DoneW p e below s _ _ _ (T141.setTop (mkF m 547 #[vi p1, vi p2, vi p3, vi p4, vi p5, vi x5, vi x6, vi x7, vi x8, vi x9, vu, vu, vu, vu] [(.ref a12)]))
  refine DoneW.step (fun t k => XS.dup X141.here hx rfl (hb hby at_547) rfl rfl k) ?_
  show DoneW p e below s _ _ _ (T141.setTop (mkF m 548 #[vi p1, vi p2, vi p3, vi p4, vi p5, vi x5, vi x6, vi x7, vi x8, vi x9, vu, vu, vu, vu] [(.ref a12), (.ref a12)]))
  refine DoneW.step (fun t k => XS.bipush X141.here hx rfl (hb hby at_548) k) ?_
  show DoneW p e below s _ _ _ (T141.setTop (mkF m 550 #[vi p1, vi p2, vi p3, vi p4, vi p5, vi x5, vi x6, vi x7, vi x8, vi x9, vu, vu, vu, vu] [(.int 54), (.ref a12), (.ref a12)]))
  refine DoneW.step (fun t k => XS.iload X141.here hx rfl (hb hby at_550) rfl k) ?_
  show DoneW p e below s _ _ _ (T141.setTop (mkF m 552 #[vi p1, vi p2, vi p3, vi p4, vi p5, vi x5, vi x6, vi x7, vi x8, vi x9, vu, vu, vu, vu] [(.int x8), (.int 54), (.ref a12), (.ref a12)]))
  obtain ⟨T149, h149, X149, e149, W149, A149, st149⟩ := stoC X141 hx hZ e141 f142 (j := (54 : Int32)) (by decide) (i := 54) (by decide) (by rw [List.length_map, RR.len (by decide)]; decide) (g := (mkF m 552 #[vi p1, vi p2, vi p3, vi p4, vi p5, vi x5, vi x6, vi x7, vi x8, vi x9, vu, vu, vu, vu] [(.int x8), (.int 54), (.ref a12), (.ref a12)])) rfl rfl (hb hby at_552)
  have f150 : Ax Z h149 a12 .char ((RR 64 55 x8).map Value.int) := (by have q := A149; rw [own_rr (by decide) hc8] at q; exact q)
  have f151 := f143.wr W149
  have f152 := f144.wr W149
  have f153 := f145.wr W149
  have f154 := f146.wr W149
  have f155 := f147.wr W149
  have f156 := f148.wr W149
  have Z149 := Nat.le_trans Z141 (Keep.of_wr W149).1
  have N149 := Fr.snoc X149 N141 g12
  refine DoneW.step st149 ?_
  show DoneW p e below s _ _ _ (T149.setTop (mkF m 553 #[vi p1, vi p2, vi p3, vi p4, vi p5, vi x5, vi x6, vi x7, vi x8, vi x9, vu, vu, vu, vu] [(.ref a12)]))
  refine DoneW.step (fun t k => XS.dup X149.here hx rfl (hb hby at_553) rfl rfl k) ?_
  show DoneW p e below s _ _ _ (T149.setTop (mkF m 554 #[vi p1, vi p2, vi p3, vi p4, vi p5, vi x5, vi x6, vi x7, vi x8, vi x9, vu, vu, vu, vu] [(.ref a12), (.ref a12)]))
  refine DoneW.step (fun t k => XS.bipush X149.here hx rfl (hb hby at_554) k) ?_
  show DoneW p e below s _ _ _ (T149.setTop (mkF m 556 #[vi p1, vi p2, vi p3, vi p4, vi p5, vi x5, vi x6, vi x7, vi x8, vi x9, vu, vu, vu, vu] [(.int 55), (.ref a12), (.ref a12)]))
  refine DoneW.step (fun t k => XS.iload X149.here hx rfl (hb hby at_556) rfl k) ?_
  show DoneW p e below s _ _ _ (T149.setTop (mkF m 558 #[vi p1, vi p2, vi p3, vi p4, vi p5, vi x5, vi x6, vi x7, vi x8, vi x9, vu, vu, vu, vu] [(.int x8), (.int 55), (.ref a12), (.ref a12)]))
  obtain ⟨T157, h157, X157, e157, W157, A157, st157⟩ := stoC X149 hx hZ e149 f150 (j := (55 : Int32)) (by decide) (i := 55) (by decide) (by rw [List.length_map, RR.len (by decide)]; decide) (g := (mkF m 558 #[vi p1, vi p2, vi p3, vi p4, vi p5, vi x5, vi x6, vi x7, vi x8, vi x9, vu, vu, vu, vu] [(.int x8), (.int 55), (.ref a12), (.ref a12)])) rfl rfl (hb hby at_558)
  have f158 : Ax Z h157 a12 .char ((RR 64 56 x8).map Value.int) := (by have q := A157; rw [own_rr (by decide) hc8] at q; exact q)
  have f159 := f151.wr W157
  have f160 := f152.wr W157
  have f161 := f153.wr W157
  have f162 := f154.wr W157
  have f163 := f155.wr W157
  have f164 := f156.wr W157
  have Z157 := Nat.le_trans Z149 (Keep.of_wr W157).1
  have N157 := Fr.snoc X157 N149 g12
  refine DoneW.step st157 ?_
  show DoneW p e below s _ _ _ (T157.setTop (mkF m 559 #[vi p1, vi p2, vi p3, vi p4, vi p5, vi x5, vi x6, vi x7, vi x8, vi x9, vu, vu, vu, vu] [(.ref a12)]))
  exact fill559 p1 p2 p3 p4 p5 x5 x6 x7 x8 x9 a12 cs sv X157 hx hZ hw hby hml hown hlk hret hnm N157 Z157 e157 f158 f159 g12 f160 f161 hsv f162 f163 f164 hcs hr5 hr6 hr7 hr8 hc5 hc6 hc7 hc8
set_option maxRecDepth 65536 in
set_option maxHeartbeats 40000000 in
theorem fill463 {p : Program} {l : Launch} {e : Env} {s : State} {m : MethodId} {args : Array Value} {below : List Frame} {meth : Method} {c : Code} {T : State} {locs : List Loc} {Z : State} {a0 : Array Value} {h0 : Heap} {n0 : Nat} (p1 p2 p3 p4 p5 x5 x6 x7 x8 x9 : Int32) (a12 : Addr) (cs : Int32) (sv : Value)
    (X0 : Stand p l e room_1 s m args below meth c T locs 1 64) (hx : p.tables.exec = Jvm.exec) (hZ : Z.Warmed39 s.vm) (hw : HH a0 Z) (hby : c.code = code) (hml : c.maxLocals = 14) (hown : s.vm.findClass "com/example/stowage/stowage/model/NamesIsNamePinLaw" = some m.cls) (hlk : meth.locks = false) (hret : meth.sig.returnType = ret) (hnm : meth.name = "law") (N0 : Fr n0 locs) (Z0 : n0 ≤ h0.size) (e0 : T.heap = h0) (A12 : Ax Z h0 a12 .char ((RR 64 40 x8).map Value.int)) (E12 : Fl4 Z h0 a12) (g12 : n0 ≤ a12) (Scs : Sta Z h0 "java/lang/String" "COMPACT_STRINGS" "Z" (.int cs)) (Ssx : Sta Z h0 "jdk/internal/util/Preconditions" "SIOOBE_FORMATTER" "Ljava/util/function/BiFunction;" sv) (hsv : sv.isRef = true) (Sad : Sta Z h0 "java/lang/StringUTF16" "$assertionsDisabled" "Z" (.int 1)) (Shi : Sta Z h0 "java/lang/StringUTF16" "HI_BYTE_SHIFT" "I" (.int 0)) (Slo : Sta Z h0 "java/lang/StringUTF16" "LO_BYTE_SHIFT" "I" (.int 8)) (hcs : ¬ cs = (0 : Int32)) (hr5 : 0 ≤ x5.toInt ∧ x5.toInt < 65536) (hr6 : 0 ≤ x6.toInt ∧ x6.toInt < 65536) (hr7 : 0 ≤ x7.toInt ∧ x7.toInt < 65536) (hr8 : 0 ≤ x8.toInt ∧ x8.toInt < 65536) (hc5 : nar .char x5 = x5) (hc6 : nar .char x6 = x6) (hc7 : nar .char x7 = x7) (hc8 : nar .char x8 = x8) :
    DoneW p e below s (fun v h L => v = some (.int 1) ∧ Fr n0 L) room_1.cells room_1.slots (T.setTop (mkF m 463 #[vi p1, vi p2, vi p3, vi p4, vi p5, vi x5, vi x6, vi x7, vi x8, vi x9, vu, vu, vu, vu] [(.ref a12)])) := by
  show DoneW p e below s _ _ _ (T.setTop (mkF m 463 #[vi p1, vi p2, vi p3, vi p4, vi p5, vi x5, vi x6, vi x7, vi x8, vi x9, vu, vu, vu, vu] [(.ref a12)]))
  refine DoneW.step (fun t k => XS.dup X0.here hx rfl (hb hby at_463) rfl rfl k) ?_
  show DoneW p e below s _ _ _ (T.setTop (mkF m 464 #[vi p1, vi p2, vi p3, vi p4, vi p5, vi x5, vi x6, vi x7, vi x8, vi x9, vu, vu, vu, vu] [(.ref a12), (.ref a12)]))
  refine DoneW.step (fun t k => XS.bipush X0.here hx rfl (hb hby at_464) k) ?_
  show DoneW p e below s _ _ _ (T.setTop (mkF m 466 #[vi p1, vi p2, vi p3, vi p4, vi p5, vi x5, vi x6, vi x7, vi x8, vi x9, vu, vu, vu, vu] [(.int 40), (.ref a12), (.ref a12)]))
  refine DoneW.step (fun t k => XS.iload X0.here hx rfl (hb hby at_466) rfl k) ?_
  show DoneW p e below s _ _ _ (T.setTop (mkF m 468 #[vi p1, vi p2, vi p3, vi p4, vi p5, vi x5, vi x6, vi x7, vi x8, vi x9, vu, vu, vu, vu] [(.int x8), (.int 40), (.ref a12), (.ref a12)]))
  obtain ⟨T101, h101, X101, e101, W101, A101, st101⟩ := stoC X0 hx hZ e0 A12 (j := (40 : Int32)) (by decide) (i := 40) (by decide) (by rw [List.length_map, RR.len (by decide)]; decide) (g := (mkF m 468 #[vi p1, vi p2, vi p3, vi p4, vi p5, vi x5, vi x6, vi x7, vi x8, vi x9, vu, vu, vu, vu] [(.int x8), (.int 40), (.ref a12), (.ref a12)])) rfl rfl (hb hby at_468)
  have f102 : Ax Z h101 a12 .char ((RR 64 41 x8).map Value.int) := (by have q := A101; rw [own_rr (by decide) hc8] at q; exact q)
  have f103 := E12.wr W101
  have f104 := Scs.wr W101
  have f105 := Ssx.wr W101
  have f106 := Sad.wr W101
  have f107 := Shi.wr W101
  have f108 := Slo.wr W101
  have Z101 := Nat.le_trans Z0 (Keep.of_wr W101).1
  have N101 := Fr.snoc X101 N0 g12
  refine DoneW.step st101 ?_
  show DoneW p e below s _ _ _ (T101.setTop (mkF m 469 #[vi p1, vi p2, vi p3, vi p4, vi p5, vi x5, vi x6, vi x7, vi x8, vi x9, vu, vu, vu, vu] [(.ref a12)]))
  refine DoneW.step (fun t k => XS.dup X101.here hx rfl (hb hby at_469) rfl rfl k) ?_
  show DoneW p e below s _ _ _ (T101.setTop (mkF m 470 #[vi p1, vi p2, vi p3, vi p4, vi p5, vi x5, vi x6, vi x7, vi x8, vi x9, vu, vu, vu, vu] [(.ref a12), (.ref a12)]))
  refine DoneW.step (fun t k => XS.bipush X101.here hx rfl (hb hby at_470) k) ?_
  show DoneW p e below s _ _ _ (T101.setTop (mkF m 472 #[vi p1, vi p2, vi p3, vi p4, vi p5, vi x5, vi x6, vi x7, vi x8, vi x9, vu, vu, vu, vu] [(.int 41), (.ref a12), (.ref a12)]))
  refine DoneW.step (fun t k => XS.iload X101.here hx rfl (hb hby at_472) rfl k) ?_
  show DoneW p e below s _ _ _ (T101.setTop (mkF m 474 #[vi p1, vi p2, vi p3, vi p4, vi p5, vi x5, vi x6, vi x7, vi x8, vi x9, vu, vu, vu, vu] [(.int x8), (.int 41), (.ref a12), (.ref a12)]))
  obtain ⟨T109, h109, X109, e109, W109, A109, st109⟩ := stoC X101 hx hZ e101 f102 (j := (41 : Int32)) (by decide) (i := 41) (by decide) (by rw [List.length_map, RR.len (by decide)]; decide) (g := (mkF m 474 #[vi p1, vi p2, vi p3, vi p4, vi p5, vi x5, vi x6, vi x7, vi x8, vi x9, vu, vu, vu, vu] [(.int x8), (.int 41), (.ref a12), (.ref a12)])) rfl rfl (hb hby at_474)
  have f110 : Ax Z h109 a12 .char ((RR 64 42 x8).map Value.int) := (by have q := A109; rw [own_rr (by decide) hc8] at q; exact q)
  have f111 := f103.wr W109
  have f112 := f104.wr W109
  have f113 := f105.wr W109
  have f114 := f106.wr W109
  have f115 := f107.wr W109
  have f116 := f108.wr W109
  have Z109 := Nat.le_trans Z101 (Keep.of_wr W109).1
  have N109 := Fr.snoc X109 N101 g12
  refine DoneW.step st109 ?_
  show DoneW p e below s _ _ _ (T109.setTop (mkF m 475 #[vi p1, vi p2, vi p3, vi p4, vi p5, vi x5, vi x6, vi x7, vi x8, vi x9, vu, vu, vu, vu] [(.ref a12)]))
  refine DoneW.step (fun t k => XS.dup X109.here hx rfl (hb hby at_475) rfl rfl k) ?_
  show DoneW p e below s _ _ _ (T109.setTop (mkF m 476 #[vi p1, vi p2, vi p3, vi p4, vi p5, vi x5, vi x6, vi x7, vi x8, vi x9, vu, vu, vu, vu] [(.ref a12), (.ref a12)]))
  refine DoneW.step (fun t k => XS.bipush X109.here hx rfl (hb hby at_476) k) ?_
  show DoneW p e below s _ _ _ (T109.setTop (mkF m 478 #[vi p1, vi p2, vi p3, vi p4, vi p5, vi x5, vi x6, vi x7, vi x8, vi x9, vu, vu, vu, vu] [(.int 42), (.ref a12), (.ref a12)]))
  refine DoneW.step (fun t k => XS.iload X109.here hx rfl (hb hby at_478) rfl k) ?_
  show DoneW p e below s _ _ _ (T109.setTop (mkF m 480 #[vi p1, vi p2, vi p3, vi p4, vi p5, vi x5, vi x6, vi x7, vi x8, vi x9, vu, vu, vu, vu] [(.int x8), (.int 42), (.ref a12), (.ref a12)]))
  obtain ⟨T117, h117, X117, e117, W117, A117, st117⟩ := stoC X109 hx hZ e109 f110 (j := (42 : Int32)) (by decide) (i := 42) (by decide) (by rw [List.length_map, RR.len (by decide)]; decide) (g := (mkF m 480 #[vi p1, vi p2, vi p3, vi p4, vi p5, vi x5, vi x6, vi x7, vi x8, vi x9, vu, vu, vu, vu] [(.int x8), (.int 42), (.ref a12), (.ref a12)])) rfl rfl (hb hby at_480)
  have f118 : Ax Z h117 a12 .char ((RR 64 43 x8).map Value.int) := (by have q := A117; rw [own_rr (by decide) hc8] at q; exact q)
  have f119 := f111.wr W117
  have f120 := f112.wr W117
  have f121 := f113.wr W117
  have f122 := f114.wr W117
  have f123 := f115.wr W117
  have f124 := f116.wr W117
  have Z117 := Nat.le_trans Z109 (Keep.of_wr W117).1
  have N117 := Fr.snoc X117 N109 g12
  refine DoneW.step st117 ?_
  show DoneW p e below s _ _ _ (T117.setTop (mkF m 481 #[vi p1, vi p2, vi p3, vi p4, vi p5, vi x5, vi x6, vi x7, vi x8, vi x9, vu, vu, vu, vu] [(.ref a12)]))
  refine DoneW.step (fun t k => XS.dup X117.here hx rfl (hb hby at_481) rfl rfl k) ?_
  show DoneW p e below s _ _ _ (T117.setTop (mkF m 482 #[vi p1, vi p2, vi p3, vi p4, vi p5, vi x5, vi x6, vi x7, vi x8, vi x9, vu, vu, vu, vu] [(.ref a12), (.ref a12)]))
  refine DoneW.step (fun t k => XS.bipush X117.here hx rfl (hb hby at_482) k) ?_
  show DoneW p e below s _ _ _ (T117.setTop (mkF m 484 #[vi p1, vi p2, vi p3, vi p4, vi p5, vi x5, vi x6, vi x7, vi x8, vi x9, vu, vu, vu, vu] [(.int 43), (.ref a12), (.ref a12)]))
  refine DoneW.step (fun t k => XS.iload X117.here hx rfl (hb hby at_484) rfl k) ?_
  show DoneW p e below s _ _ _ (T117.setTop (mkF m 486 #[vi p1, vi p2, vi p3, vi p4, vi p5, vi x5, vi x6, vi x7, vi x8, vi x9, vu, vu, vu, vu] [(.int x8), (.int 43), (.ref a12), (.ref a12)]))
  obtain ⟨T125, h125, X125, e125, W125, A125, st125⟩ := stoC X117 hx hZ e117 f118 (j := (43 : Int32)) (by decide) (i := 43) (by decide) (by rw [List.length_map, RR.len (by decide)]; decide) (g := (mkF m 486 #[vi p1, vi p2, vi p3, vi p4, vi p5, vi x5, vi x6, vi x7, vi x8, vi x9, vu, vu, vu, vu] [(.int x8), (.int 43), (.ref a12), (.ref a12)])) rfl rfl (hb hby at_486)
  have f126 : Ax Z h125 a12 .char ((RR 64 44 x8).map Value.int) := (by have q := A125; rw [own_rr (by decide) hc8] at q; exact q)
  have f127 := f119.wr W125
  have f128 := f120.wr W125
  have f129 := f121.wr W125
  have f130 := f122.wr W125
  have f131 := f123.wr W125
  have f132 := f124.wr W125
  have Z125 := Nat.le_trans Z117 (Keep.of_wr W125).1
  have N125 := Fr.snoc X125 N117 g12
  refine DoneW.step st125 ?_
  show DoneW p e below s _ _ _ (T125.setTop (mkF m 487 #[vi p1, vi p2, vi p3, vi p4, vi p5, vi x5, vi x6, vi x7, vi x8, vi x9, vu, vu, vu, vu] [(.ref a12)]))
  refine DoneW.step (fun t k => XS.dup X125.here hx rfl (hb hby at_487) rfl rfl k) ?_
  show DoneW p e below s _ _ _ (T125.setTop (mkF m 488 #[vi p1, vi p2, vi p3, vi p4, vi p5, vi x5, vi x6, vi x7, vi x8, vi x9, vu, vu, vu, vu] [(.ref a12), (.ref a12)]))
  refine DoneW.step (fun t k => XS.bipush X125.here hx rfl (hb hby at_488) k) ?_
  show DoneW p e below s _ _ _ (T125.setTop (mkF m 490 #[vi p1, vi p2, vi p3, vi p4, vi p5, vi x5, vi x6, vi x7, vi x8, vi x9, vu, vu, vu, vu] [(.int 44), (.ref a12), (.ref a12)]))
  refine DoneW.step (fun t k => XS.iload X125.here hx rfl (hb hby at_490) rfl k) ?_
  show DoneW p e below s _ _ _ (T125.setTop (mkF m 492 #[vi p1, vi p2, vi p3, vi p4, vi p5, vi x5, vi x6, vi x7, vi x8, vi x9, vu, vu, vu, vu] [(.int x8), (.int 44), (.ref a12), (.ref a12)]))
  obtain ⟨T133, h133, X133, e133, W133, A133, st133⟩ := stoC X125 hx hZ e125 f126 (j := (44 : Int32)) (by decide) (i := 44) (by decide) (by rw [List.length_map, RR.len (by decide)]; decide) (g := (mkF m 492 #[vi p1, vi p2, vi p3, vi p4, vi p5, vi x5, vi x6, vi x7, vi x8, vi x9, vu, vu, vu, vu] [(.int x8), (.int 44), (.ref a12), (.ref a12)])) rfl rfl (hb hby at_492)
  have f134 : Ax Z h133 a12 .char ((RR 64 45 x8).map Value.int) := (by have q := A133; rw [own_rr (by decide) hc8] at q; exact q)
  have f135 := f127.wr W133
  have f136 := f128.wr W133
  have f137 := f129.wr W133
  have f138 := f130.wr W133
  have f139 := f131.wr W133
  have f140 := f132.wr W133
  have Z133 := Nat.le_trans Z125 (Keep.of_wr W133).1
  have N133 := Fr.snoc X133 N125 g12
  refine DoneW.step st133 ?_
  show DoneW p e below s _ _ _ (T133.setTop (mkF m 493 #[vi p1, vi p2, vi p3, vi p4, vi p5, vi x5, vi x6, vi x7, vi x8, vi x9, vu, vu, vu, vu] [(.ref a12)]))
  refine DoneW.step (fun t k => XS.dup X133.here hx rfl (hb hby at_493) rfl rfl k) ?_
  show DoneW p e below s _ _ _ (T133.setTop (mkF m 494 #[vi p1, vi p2, vi p3, vi p4, vi p5, vi x5, vi x6, vi x7, vi x8, vi x9, vu, vu, vu, vu] [(.ref a12), (.ref a12)]))
  refine DoneW.step (fun t k => XS.bipush X133.here hx rfl (hb hby at_494) k) ?_
  show DoneW p e below s _ _ _ (T133.setTop (mkF m 496 #[vi p1, vi p2, vi p3, vi p4, vi p5, vi x5, vi x6, vi x7, vi x8, vi x9, vu, vu, vu, vu] [(.int 45), (.ref a12), (.ref a12)]))
  refine DoneW.step (fun t k => XS.iload X133.here hx rfl (hb hby at_496) rfl k) ?_
  show DoneW p e below s _ _ _ (T133.setTop (mkF m 498 #[vi p1, vi p2, vi p3, vi p4, vi p5, vi x5, vi x6, vi x7, vi x8, vi x9, vu, vu, vu, vu] [(.int x8), (.int 45), (.ref a12), (.ref a12)]))
  obtain ⟨T141, h141, X141, e141, W141, A141, st141⟩ := stoC X133 hx hZ e133 f134 (j := (45 : Int32)) (by decide) (i := 45) (by decide) (by rw [List.length_map, RR.len (by decide)]; decide) (g := (mkF m 498 #[vi p1, vi p2, vi p3, vi p4, vi p5, vi x5, vi x6, vi x7, vi x8, vi x9, vu, vu, vu, vu] [(.int x8), (.int 45), (.ref a12), (.ref a12)])) rfl rfl (hb hby at_498)
  have f142 : Ax Z h141 a12 .char ((RR 64 46 x8).map Value.int) := (by have q := A141; rw [own_rr (by decide) hc8] at q; exact q)
  have f143 := f135.wr W141
  have f144 := f136.wr W141
  have f145 := f137.wr W141
  have f146 := f138.wr W141
  have f147 := f139.wr W141
  have f148 := f140.wr W141
  have Z141 := Nat.le_trans Z133 (Keep.of_wr W141).1
  have N141 := Fr.snoc X141 N133 g12
  refine DoneW.step st141 ?_
  show DoneW p e below s _ _ _ (T141.setTop (mkF m 499 #[vi p1, vi p2, vi p3, vi p4, vi p5, vi x5, vi x6, vi x7, vi x8, vi x9, vu, vu, vu, vu] [(.ref a12)]))
  refine DoneW.step (fun t k => XS.dup X141.here hx rfl (hb hby at_499) rfl rfl k) ?_
  show DoneW p e below s _ _ _ (T141.setTop (mkF m 500 #[vi p1, vi p2, vi p3, vi p4, vi p5, vi x5, vi x6, vi x7, vi x8, vi x9, vu, vu, vu, vu] [(.ref a12), (.ref a12)]))
  refine DoneW.step (fun t k => XS.bipush X141.here hx rfl (hb hby at_500) k) ?_
  show DoneW p e below s _ _ _ (T141.setTop (mkF m 502 #[vi p1, vi p2, vi p3, vi p4, vi p5, vi x5, vi x6, vi x7, vi x8, vi x9, vu, vu, vu, vu] [(.int 46), (.ref a12), (.ref a12)]))
  refine DoneW.step (fun t k => XS.iload X141.here hx rfl (hb hby at_502) rfl k) ?_
  show DoneW p e below s _ _ _ (T141.setTop (mkF m 504 #[vi p1, vi p2, vi p3, vi p4, vi p5, vi x5, vi x6, vi x7, vi x8, vi x9, vu, vu, vu, vu] [(.int x8), (.int 46), (.ref a12), (.ref a12)]))
  obtain ⟨T149, h149, X149, e149, W149, A149, st149⟩ := stoC X141 hx hZ e141 f142 (j := (46 : Int32)) (by decide) (i := 46) (by decide) (by rw [List.length_map, RR.len (by decide)]; decide) (g := (mkF m 504 #[vi p1, vi p2, vi p3, vi p4, vi p5, vi x5, vi x6, vi x7, vi x8, vi x9, vu, vu, vu, vu] [(.int x8), (.int 46), (.ref a12), (.ref a12)])) rfl rfl (hb hby at_504)
  have f150 : Ax Z h149 a12 .char ((RR 64 47 x8).map Value.int) := (by have q := A149; rw [own_rr (by decide) hc8] at q; exact q)
  have f151 := f143.wr W149
  have f152 := f144.wr W149
  have f153 := f145.wr W149
  have f154 := f146.wr W149
  have f155 := f147.wr W149
  have f156 := f148.wr W149
  have Z149 := Nat.le_trans Z141 (Keep.of_wr W149).1
  have N149 := Fr.snoc X149 N141 g12
  refine DoneW.step st149 ?_
  show DoneW p e below s _ _ _ (T149.setTop (mkF m 505 #[vi p1, vi p2, vi p3, vi p4, vi p5, vi x5, vi x6, vi x7, vi x8, vi x9, vu, vu, vu, vu] [(.ref a12)]))
  refine DoneW.step (fun t k => XS.dup X149.here hx rfl (hb hby at_505) rfl rfl k) ?_
  show DoneW p e below s _ _ _ (T149.setTop (mkF m 506 #[vi p1, vi p2, vi p3, vi p4, vi p5, vi x5, vi x6, vi x7, vi x8, vi x9, vu, vu, vu, vu] [(.ref a12), (.ref a12)]))
  refine DoneW.step (fun t k => XS.bipush X149.here hx rfl (hb hby at_506) k) ?_
  show DoneW p e below s _ _ _ (T149.setTop (mkF m 508 #[vi p1, vi p2, vi p3, vi p4, vi p5, vi x5, vi x6, vi x7, vi x8, vi x9, vu, vu, vu, vu] [(.int 47), (.ref a12), (.ref a12)]))
  refine DoneW.step (fun t k => XS.iload X149.here hx rfl (hb hby at_508) rfl k) ?_
  show DoneW p e below s _ _ _ (T149.setTop (mkF m 510 #[vi p1, vi p2, vi p3, vi p4, vi p5, vi x5, vi x6, vi x7, vi x8, vi x9, vu, vu, vu, vu] [(.int x8), (.int 47), (.ref a12), (.ref a12)]))
  obtain ⟨T157, h157, X157, e157, W157, A157, st157⟩ := stoC X149 hx hZ e149 f150 (j := (47 : Int32)) (by decide) (i := 47) (by decide) (by rw [List.length_map, RR.len (by decide)]; decide) (g := (mkF m 510 #[vi p1, vi p2, vi p3, vi p4, vi p5, vi x5, vi x6, vi x7, vi x8, vi x9, vu, vu, vu, vu] [(.int x8), (.int 47), (.ref a12), (.ref a12)])) rfl rfl (hb hby at_510)
  have f158 : Ax Z h157 a12 .char ((RR 64 48 x8).map Value.int) := (by have q := A157; rw [own_rr (by decide) hc8] at q; exact q)
  have f159 := f151.wr W157
  have f160 := f152.wr W157
  have f161 := f153.wr W157
  have f162 := f154.wr W157
  have f163 := f155.wr W157
  have f164 := f156.wr W157
  have Z157 := Nat.le_trans Z149 (Keep.of_wr W157).1
  have N157 := Fr.snoc X157 N149 g12
  refine DoneW.step st157 ?_
  show DoneW p e below s _ _ _ (T157.setTop (mkF m 511 #[vi p1, vi p2, vi p3, vi p4, vi p5, vi x5, vi x6, vi x7, vi x8, vi x9, vu, vu, vu, vu] [(.ref a12)]))
  exact fill511 p1 p2 p3 p4 p5 x5 x6 x7 x8 x9 a12 cs sv X157 hx hZ hw hby hml hown hlk hret hnm N157 Z157 e157 f158 f159 g12 f160 f161 hsv f162 f163 f164 hcs hr5 hr6 hr7 hr8 hc5 hc6 hc7 hc8
set_option maxRecDepth 65536 in
set_option maxHeartbeats 40000000 in
theorem fill415 {p : Program} {l : Launch} {e : Env} {s : State} {m : MethodId} {args : Array Value} {below : List Frame} {meth : Method} {c : Code} {T : State} {locs : List Loc} {Z : State} {a0 : Array Value} {h0 : Heap} {n0 : Nat} (p1 p2 p3 p4 p5 x5 x6 x7 x8 x9 : Int32) (a12 : Addr) (cs : Int32) (sv : Value)
    (X0 : Stand p l e room_1 s m args below meth c T locs 1 64) (hx : p.tables.exec = Jvm.exec) (hZ : Z.Warmed39 s.vm) (hw : HH a0 Z) (hby : c.code = code) (hml : c.maxLocals = 14) (hown : s.vm.findClass "com/example/stowage/stowage/model/NamesIsNamePinLaw" = some m.cls) (hlk : meth.locks = false) (hret : meth.sig.returnType = ret) (hnm : meth.name = "law") (N0 : Fr n0 locs) (Z0 : n0 ≤ h0.size) (e0 : T.heap = h0) (A12 : Ax Z h0 a12 .char ((RR 64 32 x8).map Value.int)) (E12 : Fl4 Z h0 a12) (g12 : n0 ≤ a12) (Scs : Sta Z h0 "java/lang/String" "COMPACT_STRINGS" "Z" (.int cs)) (Ssx : Sta Z h0 "jdk/internal/util/Preconditions" "SIOOBE_FORMATTER" "Ljava/util/function/BiFunction;" sv) (hsv : sv.isRef = true) (Sad : Sta Z h0 "java/lang/StringUTF16" "$assertionsDisabled" "Z" (.int 1)) (Shi : Sta Z h0 "java/lang/StringUTF16" "HI_BYTE_SHIFT" "I" (.int 0)) (Slo : Sta Z h0 "java/lang/StringUTF16" "LO_BYTE_SHIFT" "I" (.int 8)) (hcs : ¬ cs = (0 : Int32)) (hr5 : 0 ≤ x5.toInt ∧ x5.toInt < 65536) (hr6 : 0 ≤ x6.toInt ∧ x6.toInt < 65536) (hr7 : 0 ≤ x7.toInt ∧ x7.toInt < 65536) (hr8 : 0 ≤ x8.toInt ∧ x8.toInt < 65536) (hc5 : nar .char x5 = x5) (hc6 : nar .char x6 = x6) (hc7 : nar .char x7 = x7) (hc8 : nar .char x8 = x8) :
    DoneW p e below s (fun v h L => v = some (.int 1) ∧ Fr n0 L) room_1.cells room_1.slots (T.setTop (mkF m 415 #[vi p1, vi p2, vi p3, vi p4, vi p5, vi x5, vi x6, vi x7, vi x8, vi x9, vu, vu, vu, vu] [(.ref a12)])) := by
  show DoneW p e below s _ _ _ (T.setTop (mkF m 415 #[vi p1, vi p2, vi p3, vi p4, vi p5, vi x5, vi x6, vi x7, vi x8, vi x9, vu, vu, vu, vu] [(.ref a12)]))
  refine DoneW.step (fun t k => XS.dup X0.here hx rfl (hb hby at_415) rfl rfl k) ?_
  show DoneW p e below s _ _ _ (T.setTop (mkF m 416 #[vi p1, vi p2, vi p3, vi p4, vi p5, vi x5, vi x6, vi x7, vi x8, vi x9, vu, vu, vu, vu] [(.ref a12), (.ref a12)]))
  refine DoneW.step (fun t k => XS.bipush X0.here hx rfl (hb hby at_416) k) ?_
  show DoneW p e below s _ _ _ (T.setTop (mkF m 418 #[vi p1, vi p2, vi p3, vi p4, vi p5, vi x5, vi x6, vi x7, vi x8, vi x9, vu, vu, vu, vu] [(.int 32), (.ref a12), (.ref a12)]))
  refine DoneW.step (fun t k => XS.iload X0.here hx rfl (hb hby at_418) rfl k) ?_
  show DoneW p e below s _ _ _ (T.setTop (mkF m 420 #[vi p1, vi p2, vi p3, vi p4, vi p5, vi x5, vi x6, vi x7, vi x8, vi x9, vu, vu, vu, vu] [(.int x8), (.int 32), (.ref a12), (.ref a12)]))
  obtain ⟨T101, h101, X101, e101, W101, A101, st101⟩ := stoC X0 hx hZ e0 A12 (j := (32 : Int32)) (by decide) (i := 32) (by decide) (by rw [List.length_map, RR.len (by decide)]; decide) (g := (mkF m 420 #[vi p1, vi p2, vi p3, vi p4, vi p5, vi x5, vi x6, vi x7, vi x8, vi x9, vu, vu, vu, vu] [(.int x8), (.int 32), (.ref a12), (.ref a12)])) rfl rfl (hb hby at_420)
  have f102 : Ax Z h101 a12 .char ((RR 64 33 x8).map Value.int) := (by have q := A101; rw [own_rr (by decide) hc8] at q; exact q)
  have f103 := E12.wr W101
  have f104 := Scs.wr W101
  have f105 := Ssx.wr W101
  have f106 := Sad.wr W101
  have f107 := Shi.wr W101
  have f108 := Slo.wr W101
  have Z101 := Nat.le_trans Z0 (Keep.of_wr W101).1
  have N101 := Fr.snoc X101 N0 g12
  refine DoneW.step st101 ?_
  show DoneW p e below s _ _ _ (T101.setTop (mkF m 421 #[vi p1, vi p2, vi p3, vi p4, vi p5, vi x5, vi x6, vi x7, vi x8, vi x9, vu, vu, vu, vu] [(.ref a12)]))
  refine DoneW.step (fun t k => XS.dup X101.here hx rfl (hb hby at_421) rfl rfl k) ?_
  show DoneW p e below s _ _ _ (T101.setTop (mkF m 422 #[vi p1, vi p2, vi p3, vi p4, vi p5, vi x5, vi x6, vi x7, vi x8, vi x9, vu, vu, vu, vu] [(.ref a12), (.ref a12)]))
  refine DoneW.step (fun t k => XS.bipush X101.here hx rfl (hb hby at_422) k) ?_
  show DoneW p e below s _ _ _ (T101.setTop (mkF m 424 #[vi p1, vi p2, vi p3, vi p4, vi p5, vi x5, vi x6, vi x7, vi x8, vi x9, vu, vu, vu, vu] [(.int 33), (.ref a12), (.ref a12)]))
  refine DoneW.step (fun t k => XS.iload X101.here hx rfl (hb hby at_424) rfl k) ?_
  show DoneW p e below s _ _ _ (T101.setTop (mkF m 426 #[vi p1, vi p2, vi p3, vi p4, vi p5, vi x5, vi x6, vi x7, vi x8, vi x9, vu, vu, vu, vu] [(.int x8), (.int 33), (.ref a12), (.ref a12)]))
  obtain ⟨T109, h109, X109, e109, W109, A109, st109⟩ := stoC X101 hx hZ e101 f102 (j := (33 : Int32)) (by decide) (i := 33) (by decide) (by rw [List.length_map, RR.len (by decide)]; decide) (g := (mkF m 426 #[vi p1, vi p2, vi p3, vi p4, vi p5, vi x5, vi x6, vi x7, vi x8, vi x9, vu, vu, vu, vu] [(.int x8), (.int 33), (.ref a12), (.ref a12)])) rfl rfl (hb hby at_426)
  have f110 : Ax Z h109 a12 .char ((RR 64 34 x8).map Value.int) := (by have q := A109; rw [own_rr (by decide) hc8] at q; exact q)
  have f111 := f103.wr W109
  have f112 := f104.wr W109
  have f113 := f105.wr W109
  have f114 := f106.wr W109
  have f115 := f107.wr W109
  have f116 := f108.wr W109
  have Z109 := Nat.le_trans Z101 (Keep.of_wr W109).1
  have N109 := Fr.snoc X109 N101 g12
  refine DoneW.step st109 ?_
  show DoneW p e below s _ _ _ (T109.setTop (mkF m 427 #[vi p1, vi p2, vi p3, vi p4, vi p5, vi x5, vi x6, vi x7, vi x8, vi x9, vu, vu, vu, vu] [(.ref a12)]))
  refine DoneW.step (fun t k => XS.dup X109.here hx rfl (hb hby at_427) rfl rfl k) ?_
  show DoneW p e below s _ _ _ (T109.setTop (mkF m 428 #[vi p1, vi p2, vi p3, vi p4, vi p5, vi x5, vi x6, vi x7, vi x8, vi x9, vu, vu, vu, vu] [(.ref a12), (.ref a12)]))
  refine DoneW.step (fun t k => XS.bipush X109.here hx rfl (hb hby at_428) k) ?_
  show DoneW p e below s _ _ _ (T109.setTop (mkF m 430 #[vi p1, vi p2, vi p3, vi p4, vi p5, vi x5, vi x6, vi x7, vi x8, vi x9, vu, vu, vu, vu] [(.int 34), (.ref a12), (.ref a12)]))
  refine DoneW.step (fun t k => XS.iload X109.here hx rfl (hb hby at_430) rfl k) ?_
  show DoneW p e below s _ _ _ (T109.setTop (mkF m 432 #[vi p1, vi p2, vi p3, vi p4, vi p5, vi x5, vi x6, vi x7, vi x8, vi x9, vu, vu, vu, vu] [(.int x8), (.int 34), (.ref a12), (.ref a12)]))
  obtain ⟨T117, h117, X117, e117, W117, A117, st117⟩ := stoC X109 hx hZ e109 f110 (j := (34 : Int32)) (by decide) (i := 34) (by decide) (by rw [List.length_map, RR.len (by decide)]; decide) (g := (mkF m 432 #[vi p1, vi p2, vi p3, vi p4, vi p5, vi x5, vi x6, vi x7, vi x8, vi x9, vu, vu, vu, vu] [(.int x8), (.int 34), (.ref a12), (.ref a12)])) rfl rfl (hb hby at_432)
  have f118 : Ax Z h117 a12 .char ((RR 64 35 x8).map Value.int) := (by have q := A117; rw [own_rr (by decide) hc8] at q; exact q)
  have f119 := f111.wr W117
  have f120 := f112.wr W117
  have f121 := f113.wr W117
  have f122 := f114.wr W117
  have f123 := f115.wr W117
  have f124 := f116.wr W117
  have Z117 := Nat.le_trans Z109 (Keep.of_wr W117).1
  have N117 := Fr.snoc X117 N109 g12
  refine DoneW.step st117 ?_
  show DoneW p e below s _ _ _ (T117.setTop (mkF m 433 #[vi p1, vi p2, vi p3, vi p4, vi p5, vi x5, vi x6, vi x7, vi x8, vi x9, vu, vu, vu, vu] [(.ref a12)]))
  refine DoneW.step (fun t k => XS.dup X117.here hx rfl (hb hby at_433) rfl rfl k) ?_
  show DoneW p e below s _ _ _ (T117.setTop (mkF m 434 #[vi p1, vi p2, vi p3, vi p4, vi p5, vi x5, vi x6, vi x7, vi x8, vi x9, vu, vu, vu, vu] [(.ref a12), (.ref a12)]))
  refine DoneW.step (fun t k => XS.bipush X117.here hx rfl (hb hby at_434) k) ?_
  show DoneW p e below s _ _ _ (T117.setTop (mkF m 436 #[vi p1, vi p2, vi p3, vi p4, vi p5, vi x5, vi x6, vi x7, vi x8, vi x9, vu, vu, vu, vu] [(.int 35), (.ref a12), (.ref a12)]))
  refine DoneW.step (fun t k => XS.iload X117.here hx rfl (hb hby at_436) rfl k) ?_
  show DoneW p e below s _ _ _ (T117.setTop (mkF m 438 #[vi p1, vi p2, vi p3, vi p4, vi p5, vi x5, vi x6, vi x7, vi x8, vi x9, vu, vu, vu, vu] [(.int x8), (.int 35), (.ref a12), (.ref a12)]))
  obtain ⟨T125, h125, X125, e125, W125, A125, st125⟩ := stoC X117 hx hZ e117 f118 (j := (35 : Int32)) (by decide) (i := 35) (by decide) (by rw [List.length_map, RR.len (by decide)]; decide) (g := (mkF m 438 #[vi p1, vi p2, vi p3, vi p4, vi p5, vi x5, vi x6, vi x7, vi x8, vi x9, vu, vu, vu, vu] [(.int x8), (.int 35), (.ref a12), (.ref a12)])) rfl rfl (hb hby at_438)
  have f126 : Ax Z h125 a12 .char ((RR 64 36 x8).map Value.int) := (by have q := A125; rw [own_rr (by decide) hc8] at q; exact q)
  have f127 := f119.wr W125
  have f128 := f120.wr W125
  have f129 := f121.wr W125
  have f130 := f122.wr W125
  have f131 := f123.wr W125
  have f132 := f124.wr W125
  have Z125 := Nat.le_trans Z117 (Keep.of_wr W125).1
  have N125 := Fr.snoc X125 N117 g12
  refine DoneW.step st125 ?_
  show DoneW p e below s _ _ _ (T125.setTop (mkF m 439 #[vi p1, vi p2, vi p3, vi p4, vi p5, vi x5, vi x6, vi x7, vi x8, vi x9, vu, vu, vu, vu] [(.ref a12)]))
  refine DoneW.step (fun t k => XS.dup X125.here hx rfl (hb hby at_439) rfl rfl k) ?_
  show DoneW p e below s _ _ _ (T125.setTop (mkF m 440 #[vi p1, vi p2, vi p3, vi p4, vi p5, vi x5, vi x6, vi x7, vi x8, vi x9, vu, vu, vu, vu] [(.ref a12), (.ref a12)]))
  refine DoneW.step (fun t k => XS.bipush X125.here hx rfl (hb hby at_440) k) ?_
  show DoneW p e below s _ _ _ (T125.setTop (mkF m 442 #[vi p1, vi p2, vi p3, vi p4, vi p5, vi x5, vi x6, vi x7, vi x8, vi x9, vu, vu, vu, vu] [(.int 36), (.ref a12), (.ref a12)]))
  refine DoneW.step (fun t k => XS.iload X125.here hx rfl (hb hby at_442) rfl k) ?_
  show DoneW p e below s _ _ _ (T125.setTop (mkF m 444 #[vi p1, vi p2, vi p3, vi p4, vi p5, vi x5, vi x6, vi x7, vi x8, vi x9, vu, vu, vu, vu] [(.int x8), (.int 36), (.ref a12), (.ref a12)]))
  obtain ⟨T133, h133, X133, e133, W133, A133, st133⟩ := stoC X125 hx hZ e125 f126 (j := (36 : Int32)) (by decide) (i := 36) (by decide) (by rw [List.length_map, RR.len (by decide)]; decide) (g := (mkF m 444 #[vi p1, vi p2, vi p3, vi p4, vi p5, vi x5, vi x6, vi x7, vi x8, vi x9, vu, vu, vu, vu] [(.int x8), (.int 36), (.ref a12), (.ref a12)])) rfl rfl (hb hby at_444)
  have f134 : Ax Z h133 a12 .char ((RR 64 37 x8).map Value.int) := (by have q := A133; rw [own_rr (by decide) hc8] at q; exact q)
  have f135 := f127.wr W133
  have f136 := f128.wr W133
  have f137 := f129.wr W133
  have f138 := f130.wr W133
  have f139 := f131.wr W133
  have f140 := f132.wr W133
  have Z133 := Nat.le_trans Z125 (Keep.of_wr W133).1
  have N133 := Fr.snoc X133 N125 g12
  refine DoneW.step st133 ?_
  show DoneW p e below s _ _ _ (T133.setTop (mkF m 445 #[vi p1, vi p2, vi p3, vi p4, vi p5, vi x5, vi x6, vi x7, vi x8, vi x9, vu, vu, vu, vu] [(.ref a12)]))
  refine DoneW.step (fun t k => XS.dup X133.here hx rfl (hb hby at_445) rfl rfl k) ?_
  show DoneW p e below s _ _ _ (T133.setTop (mkF m 446 #[vi p1, vi p2, vi p3, vi p4, vi p5, vi x5, vi x6, vi x7, vi x8, vi x9, vu, vu, vu, vu] [(.ref a12), (.ref a12)]))
  refine DoneW.step (fun t k => XS.bipush X133.here hx rfl (hb hby at_446) k) ?_
  show DoneW p e below s _ _ _ (T133.setTop (mkF m 448 #[vi p1, vi p2, vi p3, vi p4, vi p5, vi x5, vi x6, vi x7, vi x8, vi x9, vu, vu, vu, vu] [(.int 37), (.ref a12), (.ref a12)]))
  refine DoneW.step (fun t k => XS.iload X133.here hx rfl (hb hby at_448) rfl k) ?_
  show DoneW p e below s _ _ _ (T133.setTop (mkF m 450 #[vi p1, vi p2, vi p3, vi p4, vi p5, vi x5, vi x6, vi x7, vi x8, vi x9, vu, vu, vu, vu] [(.int x8), (.int 37), (.ref a12), (.ref a12)]))
  obtain ⟨T141, h141, X141, e141, W141, A141, st141⟩ := stoC X133 hx hZ e133 f134 (j := (37 : Int32)) (by decide) (i := 37) (by decide) (by rw [List.length_map, RR.len (by decide)]; decide) (g := (mkF m 450 #[vi p1, vi p2, vi p3, vi p4, vi p5, vi x5, vi x6, vi x7, vi x8, vi x9, vu, vu, vu, vu] [(.int x8), (.int 37), (.ref a12), (.ref a12)])) rfl rfl (hb hby at_450)
  have f142 : Ax Z h141 a12 .char ((RR 64 38 x8).map Value.int) := (by have q := A141; rw [own_rr (by decide) hc8] at q; exact q)
  have f143 := f135.wr W141
  have f144 := f136.wr W141
  have f145 := f137.wr W141
  have f146 := f138.wr W141
  have f147 := f139.wr W141
  have f148 := f140.wr W141
  have Z141 := Nat.le_trans Z133 (Keep.of_wr W141).1
  have N141 := Fr.snoc X141 N133 g12
  refine DoneW.step st141 ?_
  show DoneW p e below s _ _ _ (T141.setTop (mkF m 451 #[vi p1, vi p2, vi p3, vi p4, vi p5, vi x5, vi x6, vi x7, vi x8, vi x9, vu, vu, vu, vu] [(.ref a12)]))
  refine DoneW.step (fun t k => XS.dup X141.here hx rfl (hb hby at_451) rfl rfl k) ?_
  show DoneW p e below s _ _ _ (T141.setTop (mkF m 452 #[vi p1, vi p2, vi p3, vi p4, vi p5, vi x5, vi x6, vi x7, vi x8, vi x9, vu, vu, vu, vu] [(.ref a12), (.ref a12)]))
  refine DoneW.step (fun t k => XS.bipush X141.here hx rfl (hb hby at_452) k) ?_
  show DoneW p e below s _ _ _ (T141.setTop (mkF m 454 #[vi p1, vi p2, vi p3, vi p4, vi p5, vi x5, vi x6, vi x7, vi x8, vi x9, vu, vu, vu, vu] [(.int 38), (.ref a12), (.ref a12)]))
  refine DoneW.step (fun t k => XS.iload X141.here hx rfl (hb hby at_454) rfl k) ?_
  show DoneW p e below s _ _ _ (T141.setTop (mkF m 456 #[vi p1, vi p2, vi p3, vi p4, vi p5, vi x5, vi x6, vi x7, vi x8, vi x9, vu, vu, vu, vu] [(.int x8), (.int 38), (.ref a12), (.ref a12)]))
  obtain ⟨T149, h149, X149, e149, W149, A149, st149⟩ := stoC X141 hx hZ e141 f142 (j := (38 : Int32)) (by decide) (i := 38) (by decide) (by rw [List.length_map, RR.len (by decide)]; decide) (g := (mkF m 456 #[vi p1, vi p2, vi p3, vi p4, vi p5, vi x5, vi x6, vi x7, vi x8, vi x9, vu, vu, vu, vu] [(.int x8), (.int 38), (.ref a12), (.ref a12)])) rfl rfl (hb hby at_456)
  have f150 : Ax Z h149 a12 .char ((RR 64 39 x8).map Value.int) := (by have q := A149; rw [own_rr (by decide) hc8] at q; exact q)
  have f151 := f143.wr W149
  have f152 := f144.wr W149
  have f153 := f145.wr W149
  have f154 := f146.wr W149
  have f155 := f147.wr W149
  have f156 := f148.wr W149
  have Z149 := Nat.le_trans Z141 (Keep.of_wr W149).1
  have N149 := Fr.snoc X149 N141 g12
  refine DoneW.step st149 ?_
  show DoneW p e below s _ _ _ (T149.setTop (mkF m 457 #[vi p1, vi p2, vi p3, vi p4, vi p5, vi x5, vi x6, vi x7, vi x8, vi x9, vu, vu, vu, vu] [(.ref a12)]))
  refine DoneW.step (fun t k => XS.dup X149.here hx rfl (hb hby at_457) rfl rfl k) ?_
  show DoneW p e below s _ _ _ (T149.setTop (mkF m 458 #[vi p1, vi p2, vi p3, vi p4, vi p5, vi x5, vi x6, vi x7, vi x8, vi x9, vu, vu, vu, vu] [(.ref a12), (.ref a12)]))
  refine DoneW.step (fun t k => XS.bipush X149.here hx rfl (hb hby at_458) k) ?_
  show DoneW p e below s _ _ _ (T149.setTop (mkF m 460 #[vi p1, vi p2, vi p3, vi p4, vi p5, vi x5, vi x6, vi x7, vi x8, vi x9, vu, vu, vu, vu] [(.int 39), (.ref a12), (.ref a12)]))
  refine DoneW.step (fun t k => XS.iload X149.here hx rfl (hb hby at_460) rfl k) ?_
  show DoneW p e below s _ _ _ (T149.setTop (mkF m 462 #[vi p1, vi p2, vi p3, vi p4, vi p5, vi x5, vi x6, vi x7, vi x8, vi x9, vu, vu, vu, vu] [(.int x8), (.int 39), (.ref a12), (.ref a12)]))
  obtain ⟨T157, h157, X157, e157, W157, A157, st157⟩ := stoC X149 hx hZ e149 f150 (j := (39 : Int32)) (by decide) (i := 39) (by decide) (by rw [List.length_map, RR.len (by decide)]; decide) (g := (mkF m 462 #[vi p1, vi p2, vi p3, vi p4, vi p5, vi x5, vi x6, vi x7, vi x8, vi x9, vu, vu, vu, vu] [(.int x8), (.int 39), (.ref a12), (.ref a12)])) rfl rfl (hb hby at_462)
  have f158 : Ax Z h157 a12 .char ((RR 64 40 x8).map Value.int) := (by have q := A157; rw [own_rr (by decide) hc8] at q; exact q)
  have f159 := f151.wr W157
  have f160 := f152.wr W157
  have f161 := f153.wr W157
  have f162 := f154.wr W157
  have f163 := f155.wr W157
  have f164 := f156.wr W157
  have Z157 := Nat.le_trans Z149 (Keep.of_wr W157).1
  have N157 := Fr.snoc X157 N149 g12
  refine DoneW.step st157 ?_
  show DoneW p e below s _ _ _ (T157.setTop (mkF m 463 #[vi p1, vi p2, vi p3, vi p4, vi p5, vi x5, vi x6, vi x7, vi x8, vi x9, vu, vu, vu, vu] [(.ref a12)]))
  exact fill463 p1 p2 p3 p4 p5 x5 x6 x7 x8 x9 a12 cs sv X157 hx hZ hw hby hml hown hlk hret hnm N157 Z157 e157 f158 f159 g12 f160 f161 hsv f162 f163 f164 hcs hr5 hr6 hr7 hr8 hc5 hc6 hc7 hc8
set_option maxRecDepth 65536 in
set_option maxHeartbeats 40000000 in
theorem fill367 {p : Program} {l : Launch} {e : Env} {s : State} {m : MethodId} {args : Array Value} {below : List Frame} {meth : Method} {c : Code} {T : State} {locs : List Loc} {Z : State} {a0 : Array Value} {h0 : Heap} {n0 : Nat} (p1 p2 p3 p4 p5 x5 x6 x7 x8 x9 : Int32) (a12 : Addr) (cs : Int32) (sv : Value)
    (X0 : Stand p l e room_1 s m args below meth c T locs 1 64) (hx : p.tables.exec = Jvm.exec) (hZ : Z.Warmed39 s.vm) (hw : HH a0 Z) (hby : c.code = code) (hml : c.maxLocals = 14) (hown : s.vm.findClass "com/example/stowage/stowage/model/NamesIsNamePinLaw" = some m.cls) (hlk : meth.locks = false) (hret : meth.sig.returnType = ret) (hnm : meth.name = "law") (N0 : Fr n0 locs) (Z0 : n0 ≤ h0.size) (e0 : T.heap = h0) (A12 : Ax Z h0 a12 .char ((RR 64 24 x8).map Value.int)) (E12 : Fl4 Z h0 a12) (g12 : n0 ≤ a12) (Scs : Sta Z h0 "java/lang/String" "COMPACT_STRINGS" "Z" (.int cs)) (Ssx : Sta Z h0 "jdk/internal/util/Preconditions" "SIOOBE_FORMATTER" "Ljava/util/function/BiFunction;" sv) (hsv : sv.isRef = true) (Sad : Sta Z h0 "java/lang/StringUTF16" "$assertionsDisabled" "Z" (.int 1)) (Shi : Sta Z h0 "java/lang/StringUTF16" "HI_BYTE_SHIFT" "I" (.int 0)) (Slo : Sta Z h0 "java/lang/StringUTF16" "LO_BYTE_SHIFT" "I" (.int 8)) (hcs : ¬ cs = (0 : Int32)) (hr5 : 0 ≤ x5.toInt ∧ x5.toInt < 65536) (hr6 : 0 ≤ x6.toInt ∧ x6.toInt < 65536) (hr7 : 0 ≤ x7.toInt ∧ x7.toInt < 65536) (hr8 : 0 ≤ x8.toInt ∧ x8.toInt < 65536) (hc5 : nar .char x5 = x5) (hc6 : nar .char x6 = x6) (hc7 : nar .char x7 = x7) (hc8 : nar .char x8 = x8) :
    DoneW p e below s (fun v h L => v = some (.int 1) ∧ Fr n0 L) room_1.cells room_1.slots (T.setTop (mkF m 367 #[vi p1, vi p2, vi p3, vi p4, vi p5, vi x5, vi x6, vi x7, vi x8, vi x9, vu, vu, vu, vu] [(.ref a12)])) := by
  show DoneW p e below s _ _ _ (T.setTop (mkF m 367 #[vi p1, vi p2, vi p3, vi p4, vi p5, vi x5, vi x6, vi x7, vi x8, vi x9, vu, vu, vu, vu] [(.ref a12)]))
  refine DoneW.step (fun t k => XS.dup X0.here hx rfl (hb hby at_367) rfl rfl k) ?_
  show DoneW p e below s _ _ _ (T.setTop (mkF m 368 #[vi p1, vi p2, vi p3, vi p4, vi p5, vi x5, vi x6, vi x7, vi x8, vi x9, vu, vu, vu, vu] [(.ref a12), (.ref a12)]))
  refine DoneW.step (fun t k => XS.bipush X0.here hx rfl (hb hby at_368) k) ?_
  show DoneW p e below s _ _ _ (T.setTop (mkF m 370 #[vi p1, vi p2, vi p3, vi p4, vi p5, vi x5, vi x6, vi x7, vi x8, vi x9, vu, vu, vu, vu] [(.int 24), (.ref a12), (.ref a12)]))
  refine DoneW.step (fun t k => XS.iload X0.here hx rfl (hb hby at_370) rfl k) ?_
  show DoneW p e below s _ _ _ (T.setTop (mkF m 372 #[vi p1, vi p2, vi p3, vi p4, vi p5, vi x5, vi x6, vi x7, vi x8, vi x9, vu, vu, vu, vu] [(.int x8), (.int 24), (.ref a12), (.ref a12)]))
  obtain ⟨T101, h101, X101, e101, W101, A101, st101⟩ := stoC X0 hx hZ e0 A12 (j := (24 : Int32)) (by decide) (i := 24) (by decide) (by rw [List.length_map, RR.len (by decide)]; decide) (g := (mkF m 372 #[vi p1, vi p2, vi p3, vi p4, vi p5, vi x5, vi x6, vi x7, vi x8, vi x9, vu, vu, vu, vu] [(.int x8), (.int 24), (.ref a12), (.ref a12)])) rfl rfl (hb hby at_372)
  have f102 : Ax Z h101 a12 .char ((RR 64 25 x8).map Value.int) := (by have q := A101; rw [own_rr (by decide) hc8] at q; exact q)
  have f103 := E12.wr W101
  have f104 := Scs.wr W101
  have f105 := Ssx.wr W101
  have f106 := Sad.wr W101
  have f107 := Shi.wr W101
  have f108 := Slo.wr W101
  have Z101 := Nat.le_trans Z0 (Keep.of_wr W101).1
  have N101 := Fr.snoc X101 N0 g12
  refine DoneW.step st101 ?_
  show DoneW p e below s _ _ _ (T101.setTop (mkF m 373 #[vi p1, vi p2, vi p3, vi p4, vi p5, vi x5, vi x6, vi x7, vi x8, vi x9, vu, vu, vu, vu] [(.ref a12)]))
  refine DoneW.step (fun t k => XS.dup X101.here hx rfl (hb hby at_373) rfl rfl k) ?_
  show DoneW p e below s _ _ _ (T101.setTop (mkF m 374 #[vi p1, vi p2, vi p3, vi p4, vi p5, vi x5, vi x6, vi x7, vi x8, vi x9, vu, vu, vu, vu] [(.ref a12), (.ref a12)]))
  refine DoneW.step (fun t k => XS.bipush X101.here hx rfl (hb hby at_374) k) ?_
  show DoneW p e below s _ _ _ (T101.setTop (mkF m 376 #[vi p1, vi p2, vi p3, vi p4, vi p5, vi x5, vi x6, vi x7, vi x8, vi x9, vu, vu, vu, vu] [(.int 25), (.ref a12), (.ref a12)]))
  refine DoneW.step (fun t k => XS.iload X101.here hx rfl (hb hby at_376) rfl k) ?_
  show DoneW p e below s _ _ _ (T101.setTop (mkF m 378 #[vi p1, vi p2, vi p3, vi p4, vi p5, vi x5, vi x6, vi x7, vi x8, vi x9, vu, vu, vu, vu] [(.int x8), (.int 25), (.ref a12), (.ref a12)]))
  obtain ⟨T109, h109, X109, e109, W109, A109, st109⟩ := stoC X101 hx hZ e101 f102 (j := (25 : Int32)) (by decide) (i := 25) (by decide) (by rw [List.length_map, RR.len (by decide)]; decide) (g := (mkF m 378 #[vi p1, vi p2, vi p3, vi p4, vi p5, vi x5, vi x6, vi x7, vi x8, vi x9, vu, vu, vu, vu] [(.int x8), (.int 25), (.ref a12), (.ref a12)])) rfl rfl (hb hby at_378)
  have f110 : Ax Z h109 a12 .char ((RR 64 26 x8).map Value.int) := (by have q := A109; rw [own_rr (by decide) hc8] at q; exact q)
  have f111 := f103.wr W109
  have f112 := f104.wr W109
  have f113 := f105.wr W109
  have f114 := f106.wr W109
  have f115 := f107.wr W109
  have f116 := f108.wr W109
  have Z109 := Nat.le_trans Z101 (Keep.of_wr W109).1
  have N109 := Fr.snoc X109 N101 g12
  refine DoneW.step st109 ?_
  show DoneW p e below s _ _ _ (T109.setTop (mkF m 379 #[vi p1, vi p2, vi p3, vi p4, vi p5, vi x5, vi x6, vi x7, vi x8, vi x9, vu, vu, vu, vu] [(.ref a12)]))
  refine DoneW.step (fun t k => XS.dup X109.here hx rfl (hb hby at_379) rfl rfl k) ?_
  show DoneW p e below s _ _ _ (T109.setTop (mkF m 380 #[vi p1, vi p2, vi p3, vi p4, vi p5, vi x5, vi x6, vi x7, vi x8, vi x9, vu, vu, vu, vu] [(.ref a12), (.ref a12)]))
  refine DoneW.step (fun t k => XS.bipush X109.here hx rfl (hb hby at_380) k) ?_
  show DoneW p e below s _ _ _ (T109.setTop (mkF m 382 #[vi p1, vi p2, vi p3, vi p4, vi p5, vi x5, vi x6, vi x7, vi x8, vi x9, vu, vu, vu, vu] [(.int 26), (.ref a12), (.ref a12)]))
  refine DoneW.step (fun t k => XS.iload X109.here hx rfl (hb hby at_382) rfl k) ?_
  show DoneW p e below s _ _ _ (T109.setTop (mkF m 384 #[vi p1, vi p2, vi p3, vi p4, vi p5, vi x5, vi x6, vi x7, vi x8, vi x9, vu, vu, vu, vu] [(.int x8), (.int 26), (.ref a12), (.ref a12)]))
  obtain ⟨T117, h117, X117, e117, W117, A117, st117⟩ := stoC X109 hx hZ e109 f110 (j := (26 : Int32)) (by decide) (i := 26) (by decide) (by rw [List.length_map, RR.len (by decide)]; decide) (g := (mkF m 384 #[vi p1, vi p2, vi p3, vi p4, vi p5, vi x5, vi x6, vi x7, vi x8, vi x9, vu, vu, vu, vu] [(.int x8), (.int 26), (.ref a12), (.ref a12)])) rfl rfl (hb hby at_384)
  have f118 : Ax Z h117 a12 .char ((RR 64 27 x8).map Value.int) := (by have q := A117; rw [own_rr (by decide) hc8] at q; exact q)
  have f119 := f111.wr W117
  have f120 := f112.wr W117
  have f121 := f113.wr W117
  have f122 := f114.wr W117
  have f123 := f115.wr W117
  have f124 := f116.wr W117
  have Z117 := Nat.le_trans Z109 (Keep.of_wr W117).1
  have N117 := Fr.snoc X117 N109 g12
  refine DoneW.step st117 ?_
  show DoneW p e below s _ _ _ (T117.setTop (mkF m 385 #[vi p1, vi p2, vi p3, vi p4, vi p5, vi x5, vi x6, vi x7, vi x8, vi x9, vu, vu, vu, vu] [(.ref a12)]))
  refine DoneW.step (fun t k => XS.dup X117.here hx rfl (hb hby at_385) rfl rfl k) ?_
  show DoneW p e below s _ _ _ (T117.setTop (mkF m 386 #[vi p1, vi p2, vi p3, vi p4, vi p5, vi x5, vi x6, vi x7, vi x8, vi x9, vu, vu, vu, vu] [(.ref a12), (.ref a12)]))
  refine DoneW.step (fun t k => XS.bipush X117.here hx rfl (hb hby at_386) k) ?_
  show DoneW p e below s _ _ _ (T117.setTop (mkF m 388 #[vi p1, vi p2, vi p3, vi p4, vi p5, vi x5, vi x6, vi x7, vi x8, vi x9, vu, vu, vu, vu] [(.int 27), (.ref a12), (.ref a12)]))
  refine DoneW.step (fun t k => XS.iload X117.here hx rfl (hb hby at_388) rfl k) ?_
  show DoneW p e below s _ _ _ (T117.setTop (mkF m 390 #[vi p1, vi p2, vi p3, vi p4, vi p5, vi x5, vi x6, vi x7, vi x8, vi x9, vu, vu, vu, vu] [(.int x8), (.int 27), (.ref a12), (.ref a12)]))
  obtain ⟨T125, h125, X125, e125, W125, A125, st125⟩ := stoC X117 hx hZ e117 f118 (j := (27 : Int32)) (by decide) (i := 27) (by decide) (by rw [List.length_map, RR.len (by decide)]; decide) (g := (mkF m 390 #[vi p1, vi p2, vi p3, vi p4, vi p5, vi x5, vi x6, vi x7, vi x8, vi x9, vu, vu, vu, vu] [(.int x8), (.int 27), (.ref a12), (.ref a12)])) rfl rfl (hb hby at_390)
  have f126 : Ax Z h125 a12 .char ((RR 64 28 x8).map Value.int) := (by have q := A125; rw [own_rr (by decide) hc8] at q; exact q)
  have f127 := f119.wr W125
  have f128 := f120.wr W125
  have f129 := f121.wr W125
  have f130 := f122.wr W125
  have f131 := f123.wr W125
  have f132 := f124.wr W125
  have Z125 := Nat.le_trans Z117 (Keep.of_wr W125).1
  have N125 := Fr.snoc X125 N117 g12
  refine DoneW.step st125 ?_
  show DoneW p e below s _ _ _ (T125.setTop (mkF m 391 #[vi p1, vi p2, vi p3, vi p4, vi p5, vi x5, vi x6, vi x7, vi x8, vi x9, vu, vu, vu, vu] [(.ref a12)]))
  refine DoneW.step (fun t k => XS.dup X125.here hx rfl (hb hby at_391) rfl rfl k) ?_
  show DoneW p e below s _ _ _ (T125.setTop (mkF m 392 #[vi p1, vi p2, vi p3, vi p4, vi p5, vi x5, vi x6, vi x7, vi x8, vi x9, vu, vu, vu, vu] [(.ref a12), (.ref a12)]))
  refine DoneW.step (fun t k => XS.bipush X125.here hx rfl (hb hby at_392) k) ?_
  show DoneW p e below s _ _ _ (T125.setTop (mkF m 394 #[vi p1, vi p2, vi p3, vi p4, vi p5, vi x5, vi x6, vi x7, vi x8, vi x9, vu, vu, vu, vu] [(.int 28), (.ref a12), (.ref a12)]))
  refine DoneW.step (fun t k => XS.iload X125.here hx rfl (hb hby at_394) rfl k) ?_
  show DoneW p e below s _ _ _ (T125.setTop (mkF m 396 #[vi p1, vi p2, vi p3, vi p4, vi p5, vi x5, vi x6, vi x7, vi x8, vi x9, vu, vu, vu, vu] [(.int x8), (.int 28), (.ref a12), (.ref a12)]))
  obtain ⟨T133, h133, X133, e133, W133, A133, st133⟩ := stoC X125 hx hZ e125 f126 (j := (28 : Int32)) (by decide) (i := 28) (by decide) (by rw [List.length_map, RR.len (by decide)]; decide) (g := (mkF m 396 #[vi p1, vi p2, vi p3, vi p4, vi p5, vi x5, vi x6, vi x7, vi x8, vi x9, vu, vu, vu, vu] [(.int x8), (.int 28), (.ref a12), (.ref a12)])) rfl rfl (hb hby at_396)
  have f134 : Ax Z h133 a12 .char ((RR 64 29 x8).map Value.int) := (by have q := A133; rw [own_rr (by decide) hc8] at q; exact q)
  have f135 := f127.wr W133
  have f136 := f128.wr W133
  have f137 := f129.wr W133
  have f138 := f130.wr W133
  have f139 := f131.wr W133
  have f140 := f132.wr W133
  have Z133 := Nat.le_trans Z125 (Keep.of_wr W133).1
  have N133 := Fr.snoc X133 N125 g12
  refine DoneW.step st133 ?_
  show DoneW p e below s _ _ _ (T133.setTop (mkF m 397 #[vi p1, vi p2, vi p3, vi p4, vi p5, vi x5, vi x6, vi x7, vi x8, vi x9, vu, vu, vu, vu] [(.ref a12)]))
  refine DoneW.step (fun t k => XS.dup X133.here hx rfl (hb hby at_397) rfl rfl k) ?_
  show DoneW p e below s _ _ _ (T133.setTop (mkF m 398 #[vi p1, vi p2, vi p3, vi p4, vi p5, vi x5, vi x6, vi x7, vi x8, vi x9, vu, vu, vu, vu] [(.ref a12), (.ref a12)]))
  refine DoneW.step (fun t k => XS.bipush X133.here hx rfl (hb hby at_398) k) ?_
  show DoneW p e below s _ _ _ (T133.setTop (mkF m 400 #[vi p1, vi p2, vi p3, vi p4, vi p5, vi x5, vi x6, vi x7, vi x8, vi x9, vu, vu, vu, vu] [(.int 29), (.ref a12), (.ref a12)]))
  refine DoneW.step (fun t k => XS.iload X133.here hx rfl (hb hby at_400) rfl k) ?_
  show DoneW p e below s _ _ _ (T133.setTop (mkF m 402 #[vi p1, vi p2, vi p3, vi p4, vi p5, vi x5, vi x6, vi x7, vi x8, vi x9, vu, vu, vu, vu] [(.int x8), (.int 29), (.ref a12), (.ref a12)]))
  obtain ⟨T141, h141, X141, e141, W141, A141, st141⟩ := stoC X133 hx hZ e133 f134 (j := (29 : Int32)) (by decide) (i := 29) (by decide) (by rw [List.length_map, RR.len (by decide)]; decide) (g := (mkF m 402 #[vi p1, vi p2, vi p3, vi p4, vi p5, vi x5, vi x6, vi x7, vi x8, vi x9, vu, vu, vu, vu] [(.int x8), (.int 29), (.ref a12), (.ref a12)])) rfl rfl (hb hby at_402)
  have f142 : Ax Z h141 a12 .char ((RR 64 30 x8).map Value.int) := (by have q := A141; rw [own_rr (by decide) hc8] at q; exact q)
  have f143 := f135.wr W141
  have f144 := f136.wr W141
  have f145 := f137.wr W141
  have f146 := f138.wr W141
  have f147 := f139.wr W141
  have f148 := f140.wr W141
  have Z141 := Nat.le_trans Z133 (Keep.of_wr W141).1
  have N141 := Fr.snoc X141 N133 g12
  refine DoneW.step st141 ?_
  show DoneW p e below s _ _ _ (T141.setTop (mkF m 403 #[vi p1, vi p2, vi p3, vi p4, vi p5, vi x5, vi x6, vi x7, vi x8, vi x9, vu, vu, vu, vu] [(.ref a12)]))
  refine DoneW.step (fun t k => XS.dup X141.here hx rfl (hb hby at_403) rfl rfl k) ?_
  show DoneW p e below s _ _ _ (T141.setTop (mkF m 404 #[vi p1, vi p2, vi p3, vi p4, vi p5, vi x5, vi x6, vi x7, vi x8, vi x9, vu, vu, vu, vu] [(.ref a12), (.ref a12)]))
  refine DoneW.step (fun t k => XS.bipush X141.here hx rfl (hb hby at_404) k) ?_
  show DoneW p e below s _ _ _ (T141.setTop (mkF m 406 #[vi p1, vi p2, vi p3, vi p4, vi p5, vi x5, vi x6, vi x7, vi x8, vi x9, vu, vu, vu, vu] [(.int 30), (.ref a12), (.ref a12)]))
  refine DoneW.step (fun t k => XS.iload X141.here hx rfl (hb hby at_406) rfl k) ?_
  show DoneW p e below s _ _ _ (T141.setTop (mkF m 408 #[vi p1, vi p2, vi p3, vi p4, vi p5, vi x5, vi x6, vi x7, vi x8, vi x9, vu, vu, vu, vu] [(.int x8), (.int 30), (.ref a12), (.ref a12)]))
  obtain ⟨T149, h149, X149, e149, W149, A149, st149⟩ := stoC X141 hx hZ e141 f142 (j := (30 : Int32)) (by decide) (i := 30) (by decide) (by rw [List.length_map, RR.len (by decide)]; decide) (g := (mkF m 408 #[vi p1, vi p2, vi p3, vi p4, vi p5, vi x5, vi x6, vi x7, vi x8, vi x9, vu, vu, vu, vu] [(.int x8), (.int 30), (.ref a12), (.ref a12)])) rfl rfl (hb hby at_408)
  have f150 : Ax Z h149 a12 .char ((RR 64 31 x8).map Value.int) := (by have q := A149; rw [own_rr (by decide) hc8] at q; exact q)
  have f151 := f143.wr W149
  have f152 := f144.wr W149
  have f153 := f145.wr W149
  have f154 := f146.wr W149
  have f155 := f147.wr W149
  have f156 := f148.wr W149
  have Z149 := Nat.le_trans Z141 (Keep.of_wr W149).1
  have N149 := Fr.snoc X149 N141 g12
  refine DoneW.step st149 ?_
  show DoneW p e below s _ _ _ (T149.setTop (mkF m 409 #[vi p1, vi p2, vi p3, vi p4, vi p5, vi x5, vi x6, vi x7, vi x8, vi x9, vu, vu, vu, vu] [(.ref a12)]))
  refine DoneW.step (fun t k => XS.dup X149.here hx rfl (hb hby at_409) rfl rfl k) ?_
  show DoneW p e below s _ _ _ (T149.setTop (mkF m 410 #[vi p1, vi p2, vi p3, vi p4, vi p5, vi x5, vi x6, vi x7, vi x8, vi x9, vu, vu, vu, vu] [(.ref a12), (.ref a12)]))
  refine DoneW.step (fun t k => XS.bipush X149.here hx rfl (hb hby at_410) k) ?_
  show DoneW p e below s _ _ _ (T149.setTop (mkF m 412 #[vi p1, vi p2, vi p3, vi p4, vi p5, vi x5, vi x6, vi x7, vi x8, vi x9, vu, vu, vu, vu] [(.int 31), (.ref a12), (.ref a12)]))
  refine DoneW.step (fun t k => XS.iload X149.here hx rfl (hb hby at_412) rfl k) ?_
  show DoneW p e below s _ _ _ (T149.setTop (mkF m 414 #[vi p1, vi p2, vi p3, vi p4, vi p5, vi x5, vi x6, vi x7, vi x8, vi x9, vu, vu, vu, vu] [(.int x8), (.int 31), (.ref a12), (.ref a12)]))
  obtain ⟨T157, h157, X157, e157, W157, A157, st157⟩ := stoC X149 hx hZ e149 f150 (j := (31 : Int32)) (by decide) (i := 31) (by decide) (by rw [List.length_map, RR.len (by decide)]; decide) (g := (mkF m 414 #[vi p1, vi p2, vi p3, vi p4, vi p5, vi x5, vi x6, vi x7, vi x8, vi x9, vu, vu, vu, vu] [(.int x8), (.int 31), (.ref a12), (.ref a12)])) rfl rfl (hb hby at_414)
  have f158 : Ax Z h157 a12 .char ((RR 64 32 x8).map Value.int) := (by have q := A157; rw [own_rr (by decide) hc8] at q; exact q)
  have f159 := f151.wr W157
  have f160 := f152.wr W157
  have f161 := f153.wr W157
  have f162 := f154.wr W157
  have f163 := f155.wr W157
  have f164 := f156.wr W157
  have Z157 := Nat.le_trans Z149 (Keep.of_wr W157).1
  have N157 := Fr.snoc X157 N149 g12
  refine DoneW.step st157 ?_
  show DoneW p e below s _ _ _ (T157.setTop (mkF m 415 #[vi p1, vi p2, vi p3, vi p4, vi p5, vi x5, vi x6, vi x7, vi x8, vi x9, vu, vu, vu, vu] [(.ref a12)]))
  exact fill415 p1 p2 p3 p4 p5 x5 x6 x7 x8 x9 a12 cs sv X157 hx hZ hw hby hml hown hlk hret hnm N157 Z157 e157 f158 f159 g12 f160 f161 hsv f162 f163 f164 hcs hr5 hr6 hr7 hr8 hc5 hc6 hc7 hc8
set_option maxRecDepth 65536 in
set_option maxHeartbeats 40000000 in
theorem fill319 {p : Program} {l : Launch} {e : Env} {s : State} {m : MethodId} {args : Array Value} {below : List Frame} {meth : Method} {c : Code} {T : State} {locs : List Loc} {Z : State} {a0 : Array Value} {h0 : Heap} {n0 : Nat} (p1 p2 p3 p4 p5 x5 x6 x7 x8 x9 : Int32) (a12 : Addr) (cs : Int32) (sv : Value)
    (X0 : Stand p l e room_1 s m args below meth c T locs 1 64) (hx : p.tables.exec = Jvm.exec) (hZ : Z.Warmed39 s.vm) (hw : HH a0 Z) (hby : c.code = code) (hml : c.maxLocals = 14) (hown : s.vm.findClass "com/example/stowage/stowage/model/NamesIsNamePinLaw" = some m.cls) (hlk : meth.locks = false) (hret : meth.sig.returnType = ret) (hnm : meth.name = "law") (N0 : Fr n0 locs) (Z0 : n0 ≤ h0.size) (e0 : T.heap = h0) (A12 : Ax Z h0 a12 .char ((RR 64 16 x8).map Value.int)) (E12 : Fl4 Z h0 a12) (g12 : n0 ≤ a12) (Scs : Sta Z h0 "java/lang/String" "COMPACT_STRINGS" "Z" (.int cs)) (Ssx : Sta Z h0 "jdk/internal/util/Preconditions" "SIOOBE_FORMATTER" "Ljava/util/function/BiFunction;" sv) (hsv : sv.isRef = true) (Sad : Sta Z h0 "java/lang/StringUTF16" "$assertionsDisabled" "Z" (.int 1)) (Shi : Sta Z h0 "java/lang/StringUTF16" "HI_BYTE_SHIFT" "I" (.int 0)) (Slo : Sta Z h0 "java/lang/StringUTF16" "LO_BYTE_SHIFT" "I" (.int 8)) (hcs : ¬ cs = (0 : Int32)) (hr5 : 0 ≤ x5.toInt ∧ x5.toInt < 65536) (hr6 : 0 ≤ x6.toInt ∧ x6.toInt < 65536) (hr7 : 0 ≤ x7.toInt ∧ x7.toInt < 65536) (hr8 : 0 ≤ x8.toInt ∧ x8.toInt < 65536) (hc5 : nar .char x5 = x5) (hc6 : nar .char x6 = x6) (hc7 : nar .char x7 = x7) (hc8 : nar .char x8 = x8) :
    DoneW p e below s (fun v h L => v = some (.int 1) ∧ Fr n0 L) room_1.cells room_1.slots (T.setTop (mkF m 319 #[vi p1, vi p2, vi p3, vi p4, vi p5, vi x5, vi x6, vi x7, vi x8, vi x9, vu, vu, vu, vu] [(.ref a12)])) := by
  show DoneW p e below s _ _ _ (T.setTop (mkF m 319 #[vi p1, vi p2, vi p3, vi p4, vi p5, vi x5, vi x6, vi x7, vi x8, vi x9, vu, vu, vu, vu] [(.ref a12)]))
  refine DoneW.step (fun t k => XS.dup X0.here hx rfl (hb hby at_319) rfl rfl k) ?_
  show DoneW p e below s _ _ _ (T.setTop (mkF m 320 #[vi p1, vi p2, vi p3, vi p4, vi p5, vi x5, vi x6, vi x7, vi x8, vi x9, vu, vu, vu, vu] [(.ref a12), (.ref a12)]))
  refine DoneW.step (fun t k => XS.bipush X0.here hx rfl (hb hby at_320) k) ?_
  show DoneW p e below s _ _ _ (T.setTop (mkF m 322 #[vi p1, vi p2, vi p3, vi p4, vi p5, vi x5, vi x6, vi x7, vi x8, vi x9, vu, vu, vu, vu] [(.int 16), (.ref a12), (.ref a12)]))
  refine DoneW.step (fun t k => XS.iload X0.here hx rfl (hb hby at_322) rfl k) ?_
  show DoneW p e below s _ _ _ (T.setTop (mkF m 324 #[vi p1, vi p2, vi p3, vi p4, vi p5, vi x5, vi x6, vi x7, vi x8, vi x9, vu, vu, vu, vu] [(.int x8), (.int 16), (.ref a12), (.ref a12)]))
  obtain ⟨T101, h101, X101, e101, W101, A101, st101⟩ := stoC X0 hx hZ e0 A12 (j := (16 : Int32)) (by decide) (i := 16) (by decide) (by rw [List.length_map, RR.len (by decide)]; decide) (g := (mkF m 324 #[vi p1, vi p2, vi p3, vi p4, vi p5, vi x5, vi x6, vi x7, vi x8, vi x9, vu, vu, vu, vu] [(.int x8), (.int 16), (.ref a12), (.ref a12)])) rfl rfl (hb hby at_324)
  have f102 : Ax Z h101 a12 .char ((RR 64 17 x8).map Value.int) := (by have q := A101; rw [own_rr (by decide) hc8] at q; exact q)
  have f103 := E12.wr W101
  have f104 := Scs.wr W101
  have f105 := Ssx.wr W101
  have f106 := Sad.wr W101
  have f107 := Shi.wr W101
  have f108 := Slo.wr W101
  have Z101 := Nat.le_trans Z0 (Keep.of_wr W101).1
  have N101 := Fr.snoc X101 N0 g12
  refine DoneW.step st101 ?_
  show DoneW p e below s _ _ _ (T101.setTop (mkF m 325 #[vi p1, vi p2, vi p3, vi p4, vi p5, vi x5, vi x6, vi x7, vi x8, vi x9, vu, vu, vu, vu] [(.ref a12)]))
  refine DoneW.step (fun t k => XS.dup X101.here hx rfl (hb hby at_325) rfl rfl k) ?_
  show DoneW p e below s _ _ _ (T101.setTop (mkF m 326 #[vi p1, vi p2, vi p3, vi p4, vi p5, vi x5, vi x6, vi x7, vi x8, vi x9, vu, vu, vu, vu] [(.ref a12), (.ref a12)]))
  refine DoneW.step (fun t k => XS.bipush X101.here hx rfl (hb hby at_326) k) ?_
  show DoneW p e below s _ _ _ (T101.setTop (mkF m 328 #[vi p1, vi p2, vi p3, vi p4, vi p5, vi x5, vi x6, vi x7, vi x8, vi x9, vu, vu, vu, vu] [(.int 17), (.ref a12), (.ref a12)]))
  refine DoneW.step (fun t k => XS.iload X101.here hx rfl (hb hby at_328) rfl k) ?_
  show DoneW p e below s _ _ _ (T101.setTop (mkF m 330 #[vi p1, vi p2, vi p3, vi p4, vi p5, vi x5, vi x6, vi x7, vi x8, vi x9, vu, vu, vu, vu] [(.int x8), (.int 17), (.ref a12), (.ref a12)]))
  obtain ⟨T109, h109, X109, e109, W109, A109, st109⟩ := stoC X101 hx hZ e101 f102 (j := (17 : Int32)) (by decide) (i := 17) (by decide) (by rw [List.length_map, RR.len (by decide)]; decide) (g := (mkF m 330 #[vi p1, vi p2, vi p3, vi p4, vi p5, vi x5, vi x6, vi x7, vi x8, vi x9, vu, vu, vu, vu] [(.int x8), (.int 17), (.ref a12), (.ref a12)])) rfl rfl (hb hby at_330)
  have f110 : Ax Z h109 a12 .char ((RR 64 18 x8).map Value.int) := (by have q := A109; rw [own_rr (by decide) hc8] at q; exact q)
  have f111 := f103.wr W109
  have f112 := f104.wr W109
  have f113 := f105.wr W109
  have f114 := f106.wr W109
  have f115 := f107.wr W109
  have f116 := f108.wr W109
  have Z109 := Nat.le_trans Z101 (Keep.of_wr W109).1
  have N109 := Fr.snoc X109 N101 g12
  refine DoneW.step st109 ?_
  show DoneW p e below s _ _ _ (T109.setTop (mkF m 331 #[vi p1, vi p2, vi p3, vi p4, vi p5, vi x5, vi x6, vi x7, vi x8, vi x9, vu, vu, vu, vu] [(.ref a12)]))
  refine DoneW.step (fun t k => XS.dup X109.here hx rfl (hb hby at_331) rfl rfl k) ?_
  show DoneW p e below s _ _ _ (T109.setTop (mkF m 332 #[vi p1, vi p2, vi p3, vi p4, vi p5, vi x5, vi x6, vi x7, vi x8, vi x9, vu, vu, vu, vu] [(.ref a12), (.ref a12)]))
  refine DoneW.step (fun t k => XS.bipush X109.here hx rfl (hb hby at_332) k) ?_
  show DoneW p e below s _ _ _ (T109.setTop (mkF m 334 #[vi p1, vi p2, vi p3, vi p4, vi p5, vi x5, vi x6, vi x7, vi x8, vi x9, vu, vu, vu, vu] [(.int 18), (.ref a12), (.ref a12)]))
  refine DoneW.step (fun t k => XS.iload X109.here hx rfl (hb hby at_334) rfl k) ?_
  show DoneW p e below s _ _ _ (T109.setTop (mkF m 336 #[vi p1, vi p2, vi p3, vi p4, vi p5, vi x5, vi x6, vi x7, vi x8, vi x9, vu, vu, vu, vu] [(.int x8), (.int 18), (.ref a12), (.ref a12)]))
  obtain ⟨T117, h117, X117, e117, W117, A117, st117⟩ := stoC X109 hx hZ e109 f110 (j := (18 : Int32)) (by decide) (i := 18) (by decide) (by rw [List.length_map, RR.len (by decide)]; decide) (g := (mkF m 336 #[vi p1, vi p2, vi p3, vi p4, vi p5, vi x5, vi x6, vi x7, vi x8, vi x9, vu, vu, vu, vu] [(.int x8), (.int 18), (.ref a12), (.ref a12)])) rfl rfl (hb hby at_336)
  have f118 : Ax Z h117 a12 .char ((RR 64 19 x8).map Value.int) := (by have q := A117; rw [own_rr (by decide) hc8] at q; exact q)
  have f119 := f111.wr W117
  have f120 := f112.wr W117
  have f121 := f113.wr W117
  have f122 := f114.wr W117
  have f123 := f115.wr W117
  have f124 := f116.wr W117
  have Z117 := Nat.le_trans Z109 (Keep.of_wr W117).1
  have N117 := Fr.snoc X117 N109 g12
  refine DoneW.step st117 ?_
  show DoneW p e below s _ _ _ (T117.setTop (mkF m 337 #[vi p1, vi p2, vi p3, vi p4, vi p5, vi x5, vi x6, vi x7, vi x8, vi x9, vu, vu, vu, vu] [(.ref a12)]))
  refine DoneW.step (fun t k => XS.dup X117.here hx rfl (hb hby at_337) rfl rfl k) ?_
  show DoneW p e below s _ _ _ (T117.setTop (mkF m 338 #[vi p1, vi p2, vi p3, vi p4, vi p5, vi x5, vi x6, vi x7, vi x8, vi x9, vu, vu, vu, vu] [(.ref a12), (.ref a12)]))
  refine DoneW.step (fun t k => XS.bipush X117.here hx rfl (hb hby at_338) k) ?_
  show DoneW p e below s _ _ _ (T117.setTop (mkF m 340 #[vi p1, vi p2, vi p3, vi p4, vi p5, vi x5, vi x6, vi x7, vi x8, vi x9, vu, vu, vu, vu] [(.int 19), (.ref a12), (.ref a12)]))
  refine DoneW.step (fun t k => XS.iload X117.here hx rfl (hb hby at_340) rfl k) ?_
  show DoneW p e below s _ _ _ (T117.setTop (mkF m 342 #[vi p1, vi p2, vi p3, vi p4, vi p5, vi x5, vi x6, vi x7, vi x8, vi x9, vu, vu, vu, vu] [(.int x8), (.int 19), (.ref a12), (.ref a12)]))
  obtain ⟨T125, h125, X125, e125, W125, A125, st125⟩ := stoC X117 hx hZ e117 f118 (j := (19 : Int32)) (by decide) (i := 19) (by decide) (by rw [List.length_map, RR.len (by decide)]; decide) (g := (mkF m 342 #[vi p1, vi p2, vi p3, vi p4, vi p5, vi x5, vi x6, vi x7, vi x8, vi x9, vu, vu, vu, vu] [(.int x8), (.int 19), (.ref a12), (.ref a12)])) rfl rfl (hb hby at_342)
  have f126 : Ax Z h125 a12 .char ((RR 64 20 x8).map Value.int) := (by have q := A125; rw [own_rr (by decide) hc8] at q; exact q)
  have f127 := f119.wr W125
  have f128 := f120.wr W125
  have f129 := f121.wr W125
  have f130 := f122.wr W125
  have f131 := f123.wr W125
  have f132 := f124.wr W125
  have Z125 := Nat.le_trans Z117 (Keep.of_wr W125).1
  have N125 := Fr.snoc X125 N117 g12
  refine DoneW.step st125 ?_
  show DoneW p e below s _ _ _ (T125.setTop (mkF m 343 #[vi p1, vi p2, vi p3, vi p4, vi p5, vi x5, vi x6, vi x7, vi x8, vi x9, vu, vu, vu, vu] [(.ref a12)]))
  refine DoneW.step (fun t k => XS.dup X125.here hx rfl (hb hby at_343) rfl rfl k) ?_
  show DoneW p e below s _ _ _ (T125.setTop (mkF m 344 #[vi p1, vi p2, vi p3, vi p4, vi p5, vi x5, vi x6, vi x7, vi x8, vi x9, vu, vu, vu, vu] [(.ref a12), (.ref a12)]))
  refine DoneW.step (fun t k => XS.bipush X125.here hx rfl (hb hby at_344) k) ?_
  show DoneW p e below s _ _ _ (T125.setTop (mkF m 346 #[vi p1, vi p2, vi p3, vi p4, vi p5, vi x5, vi x6, vi x7, vi x8, vi x9, vu, vu, vu, vu] [(.int 20), (.ref a12), (.ref a12)]))
  refine DoneW.step (fun t k => XS.iload X125.here hx rfl (hb hby at_346) rfl k) ?_
  show DoneW p e below s _ _ _ (T125.setTop (mkF m 348 #[vi p1, vi p2, vi p3, vi p4, vi p5, vi x5, vi x6, vi x7, vi x8, vi x9, vu, vu, vu, vu] [(.int x8), (.int 20), (.ref a12), (.ref a12)]))
  obtain ⟨T133, h133, X133, e133, W133, A133, st133⟩ := stoC X125 hx hZ e125 f126 (j := (20 : Int32)) (by decide) (i := 20) (by decide) (by rw [List.length_map, RR.len (by decide)]; decide) (g := (mkF m 348 #[vi p1, vi p2, vi p3, vi p4, vi p5, vi x5, vi x6, vi x7, vi x8, vi x9, vu, vu, vu, vu] [(.int x8), (.int 20), (.ref a12), (.ref a12)])) rfl rfl (hb hby at_348)
  have f134 : Ax Z h133 a12 .char ((RR 64 21 x8).map Value.int) := (by have q := A133; rw [own_rr (by decide) hc8] at q; exact q)
  have f135 := f127.wr W133
  have f136 := f128.wr W133
  have f137 := f129.wr W133
  have f138 := f130.wr W133
  have f139 := f131.wr W133
  have f140 := f132.wr W133
  have Z133 := Nat.le_trans Z125 (Keep.of_wr W133).1
  have N133 := Fr.snoc X133 N125 g12
  refine DoneW.step st133 ?_
  show DoneW p e below s _ _ _ (T133.setTop (mkF m 349 #[vi p1, vi p2, vi p3, vi p4, vi p5, vi x5, vi x6, vi x7, vi x8, vi x9, vu, vu, vu, vu] [(.ref a12)]))
  refine DoneW.step (fun t k => XS.dup X133.here hx rfl (hb hby at_349) rfl rfl k) ?_
  show DoneW p e below s _ _ _ (T133.setTop (mkF m 350 #[vi p1, vi p2, vi p3, vi p4, vi p5, vi x5, vi x6, vi x7, vi x8, vi x9, vu, vu, vu, vu] [(.ref a12), (.ref a12)]))
  refine DoneW.step (fun t k => XS.bipush X133.here hx rfl (hb hby at_350) k) ?_
  show DoneW p e below s _ _ _ (T133.setTop (mkF m 352 #[vi p1, vi p2, vi p3, vi p4, vi p5, vi x5, vi x6, vi x7, vi x8, vi x9, vu, vu, vu, vu] [(.int 21), (.ref a12), (.ref a12)]))
  refine DoneW.step (fun t k => XS.iload X133.here hx rfl (hb hby at_352) rfl k) ?_
  show DoneW p e below s _ _ _ (T133.setTop (mkF m 354 #[vi p1, vi p2, vi p3, vi p4, vi p5, vi x5, vi x6, vi x7, vi x8, vi x9, vu, vu, vu, vu] [(.int x8), (.int 21), (.ref a12), (.ref a12)]))
  obtain ⟨T141, h141, X141, e141, W141, A141, st141⟩ := stoC X133 hx hZ e133 f134 (j := (21 : Int32)) (by decide) (i := 21) (by decide) (by rw [List.length_map, RR.len (by decide)]; decide) (g := (mkF m 354 #[vi p1, vi p2, vi p3, vi p4, vi p5, vi x5, vi x6, vi x7, vi x8, vi x9, vu, vu, vu, vu] [(.int x8), (.int 21), (.ref a12), (.ref a12)])) rfl rfl (hb hby at_354)
  have f142 : Ax Z h141 a12 .char ((RR 64 22 x8).map Value.int) := (by have q := A141; rw [own_rr (by decide) hc8] at q; exact q)
  have f143 := f135.wr W141
  have f144 := f136.wr W141
  have f145 := f137.wr W141
  have f146 := f138.wr W141
  have f147 := f139.wr W141
  have f148 := f140.wr W141
  have Z141 := Nat.le_trans Z133 (Keep.of_wr W141).1
  have N141 := Fr.snoc X141 N133 g12
  refine DoneW.step st141 ?_
  show DoneW p e below s _ _ _ (T141.setTop (mkF m 355 #[vi p1, vi p2, vi p3, vi p4, vi p5, vi x5, vi x6, vi x7, vi x8, vi x9, vu, vu, vu, vu] [(.ref a12)]))
  refine DoneW.step (fun t k => XS.dup X141.here hx rfl (hb hby at_355) rfl rfl k) ?_
  show DoneW p e below s _ _ _ (T141.setTop (mkF m 356 #[vi p1, vi p2, vi p3, vi p4, vi p5, vi x5, vi x6, vi x7, vi x8, vi x9, vu, vu, vu, vu] [(.ref a12), (.ref a12)]))
  refine DoneW.step (fun t k => XS.bipush X141.here hx rfl (hb hby at_356) k) ?_
  show DoneW p e below s _ _ _ (T141.setTop (mkF m 358 #[vi p1, vi p2, vi p3, vi p4, vi p5, vi x5, vi x6, vi x7, vi x8, vi x9, vu, vu, vu, vu] [(.int 22), (.ref a12), (.ref a12)]))
  refine DoneW.step (fun t k => XS.iload X141.here hx rfl (hb hby at_358) rfl k) ?_
  show DoneW p e below s _ _ _ (T141.setTop (mkF m 360 #[vi p1, vi p2, vi p3, vi p4, vi p5, vi x5, vi x6, vi x7, vi x8, vi x9, vu, vu, vu, vu] [(.int x8), (.int 22), (.ref a12), (.ref a12)]))
  obtain ⟨T149, h149, X149, e149, W149, A149, st149⟩ := stoC X141 hx hZ e141 f142 (j := (22 : Int32)) (by decide) (i := 22) (by decide) (by rw [List.length_map, RR.len (by decide)]; decide) (g := (mkF m 360 #[vi p1, vi p2, vi p3, vi p4, vi p5, vi x5, vi x6, vi x7, vi x8, vi x9, vu, vu, vu, vu] [(.int x8), (.int 22), (.ref a12), (.ref a12)])) rfl rfl (hb hby at_360)
  have f150 : Ax Z h149 a12 .char ((RR 64 23 x8).map Value.int) := (by have q := A149; rw [own_rr (by decide) hc8] at q; exact q)
  have f151 := f143.wr W149
  have f152 := f144.wr W149
  have f153 := f145.wr W149
  have f154 := f146.wr W149
  have f155 := f147.wr W149
  have f156 := f148.wr W149
  have Z149 := Nat.le_trans Z141 (Keep.of_wr W149).1
  have N149 := Fr.snoc X149 N141 g12
  refine DoneW.step st149 ?_
  show DoneW p e below s _ _ _ (T149.setTop (mkF m 361 #[vi p1, vi p2, vi p3, vi p4, vi p5, vi x5, vi x6, vi x7, vi x8, vi x9, vu, vu, vu, vu] [(.ref a12)]))
  refine DoneW.step (fun t k => XS.dup X149.here hx rfl (hb hby at_361) rfl rfl k) ?_
  show DoneW p e below s _ _ _ (T149.setTop (mkF m 362 #[vi p1, vi p2, vi p3, vi p4, vi p5, vi x5, vi x6, vi x7, vi x8, vi x9, vu, vu, vu, vu] [(.ref a12), (.ref a12)]))
  refine DoneW.step (fun t k => XS.bipush X149.here hx rfl (hb hby at_362) k) ?_
  show DoneW p e below s _ _ _ (T149.setTop (mkF m 364 #[vi p1, vi p2, vi p3, vi p4, vi p5, vi x5, vi x6, vi x7, vi x8, vi x9, vu, vu, vu, vu] [(.int 23), (.ref a12), (.ref a12)]))
  refine DoneW.step (fun t k => XS.iload X149.here hx rfl (hb hby at_364) rfl k) ?_
  show DoneW p e below s _ _ _ (T149.setTop (mkF m 366 #[vi p1, vi p2, vi p3, vi p4, vi p5, vi x5, vi x6, vi x7, vi x8, vi x9, vu, vu, vu, vu] [(.int x8), (.int 23), (.ref a12), (.ref a12)]))
  obtain ⟨T157, h157, X157, e157, W157, A157, st157⟩ := stoC X149 hx hZ e149 f150 (j := (23 : Int32)) (by decide) (i := 23) (by decide) (by rw [List.length_map, RR.len (by decide)]; decide) (g := (mkF m 366 #[vi p1, vi p2, vi p3, vi p4, vi p5, vi x5, vi x6, vi x7, vi x8, vi x9, vu, vu, vu, vu] [(.int x8), (.int 23), (.ref a12), (.ref a12)])) rfl rfl (hb hby at_366)
  have f158 : Ax Z h157 a12 .char ((RR 64 24 x8).map Value.int) := (by have q := A157; rw [own_rr (by decide) hc8] at q; exact q)
  have f159 := f151.wr W157
  have f160 := f152.wr W157
  have f161 := f153.wr W157
  have f162 := f154.wr W157
  have f163 := f155.wr W157
  have f164 := f156.wr W157
  have Z157 := Nat.le_trans Z149 (Keep.of_wr W157).1
  have N157 := Fr.snoc X157 N149 g12
  refine DoneW.step st157 ?_
  show DoneW p e below s _ _ _ (T157.setTop (mkF m 367 #[vi p1, vi p2, vi p3, vi p4, vi p5, vi x5, vi x6, vi x7, vi x8, vi x9, vu, vu, vu, vu] [(.ref a12)]))
  exact fill367 p1 p2 p3 p4 p5 x5 x6 x7 x8 x9 a12 cs sv X157 hx hZ hw hby hml hown hlk hret hnm N157 Z157 e157 f158 f159 g12 f160 f161 hsv f162 f163 f164 hcs hr5 hr6 hr7 hr8 hc5 hc6 hc7 hc8
set_option maxRecDepth 65536 in
set_option maxHeartbeats 40000000 in
theorem fill271 {p : Program} {l : Launch} {e : Env} {s : State} {m : MethodId} {args : Array Value} {below : List Frame} {meth : Method} {c : Code} {T : State} {locs : List Loc} {Z : State} {a0 : Array Value} {h0 : Heap} {n0 : Nat} (p1 p2 p3 p4 p5 x5 x6 x7 x8 x9 : Int32) (a12 : Addr) (cs : Int32) (sv : Value)
    (X0 : Stand p l e room_1 s m args below meth c T locs 1 64) (hx : p.tables.exec = Jvm.exec) (hZ : Z.Warmed39 s.vm) (hw : HH a0 Z) (hby : c.code = code) (hml : c.maxLocals = 14) (hown : s.vm.findClass "com/example/stowage/stowage/model/NamesIsNamePinLaw" = some m.cls) (hlk : meth.locks = false) (hret : meth.sig.returnType = ret) (hnm : meth.name = "law") (N0 : Fr n0 locs) (Z0 : n0 ≤ h0.size) (e0 : T.heap = h0) (A12 : Ax Z h0 a12 .char ((RR 64 8 x8).map Value.int)) (E12 : Fl4 Z h0 a12) (g12 : n0 ≤ a12) (Scs : Sta Z h0 "java/lang/String" "COMPACT_STRINGS" "Z" (.int cs)) (Ssx : Sta Z h0 "jdk/internal/util/Preconditions" "SIOOBE_FORMATTER" "Ljava/util/function/BiFunction;" sv) (hsv : sv.isRef = true) (Sad : Sta Z h0 "java/lang/StringUTF16" "$assertionsDisabled" "Z" (.int 1)) (Shi : Sta Z h0 "java/lang/StringUTF16" "HI_BYTE_SHIFT" "I" (.int 0)) (Slo : Sta Z h0 "java/lang/StringUTF16" "LO_BYTE_SHIFT" "I" (.int 8)) (hcs : ¬ cs = (0 : Int32)) (hr5 : 0 ≤ x5.toInt ∧ x5.toInt < 65536) (hr6 : 0 ≤ x6.toInt ∧ x6.toInt < 65536) (hr7 : 0 ≤ x7.toInt ∧ x7.toInt < 65536) (hr8 : 0 ≤ x8.toInt ∧ x8.toInt < 65536) (hc5 : nar .char x5 = x5) (hc6 : nar .char x6 = x6) (hc7 : nar .char x7 = x7) (hc8 : nar .char x8 = x8) :
    DoneW p e below s (fun v h L => v = some (.int 1) ∧ Fr n0 L) room_1.cells room_1.slots (T.setTop (mkF m 271 #[vi p1, vi p2, vi p3, vi p4, vi p5, vi x5, vi x6, vi x7, vi x8, vi x9, vu, vu, vu, vu] [(.ref a12)])) := by
  show DoneW p e below s _ _ _ (T.setTop (mkF m 271 #[vi p1, vi p2, vi p3, vi p4, vi p5, vi x5, vi x6, vi x7, vi x8, vi x9, vu, vu, vu, vu] [(.ref a12)]))
  refine DoneW.step (fun t k => XS.dup X0.here hx rfl (hb hby at_271) rfl rfl k) ?_
  show DoneW p e below s _ _ _ (T.setTop (mkF m 272 #[vi p1, vi p2, vi p3, vi p4, vi p5, vi x5, vi x6, vi x7, vi x8, vi x9, vu, vu, vu, vu] [(.ref a12), (.ref a12)]))
  refine DoneW.step (fun t k => XS.bipush X0.here hx rfl (hb hby at_272) k) ?_
  show DoneW p e below s _ _ _ (T.setTop (mkF m 274 #[vi p1, vi p2, vi p3, vi p4, vi p5, vi x5, vi x6, vi x7, vi x8, vi x9, vu, vu, vu, vu] [(.int 8), (.ref a12), (.ref a12)]))
  refine DoneW.step (fun t k => XS.iload X0.here hx rfl (hb hby at_274) rfl k) ?_
  show DoneW p e below s _ _ _ (T.setTop (mkF m 276 #[vi p1, vi p2, vi p3, vi p4, vi p5, vi x5, vi x6, vi x7, vi x8, vi x9, vu, vu, vu, vu] [(.int x8), (.int 8), (.ref a12), (.ref a12)]))
  obtain ⟨T101, h101, X101, e101, W101, A101, st101⟩ := stoC X0 hx hZ e0 A12 (j := (8 : Int32)) (by decide) (i := 8) (by decide) (by rw [List.length_map, RR.len (by decide)]; decide) (g := (mkF m 276 #[vi p1, vi p2, vi p3, vi p4, vi p5, vi x5, vi x6, vi x7, vi x8, vi x9, vu, vu, vu, vu] [(.int x8), (.int 8), (.ref a12), (.ref a12)])) rfl rfl (hb hby at_276)
  have f102 : Ax Z h101 a12 .char ((RR 64 9 x8).map Value.int) := (by have q := A101; rw [own_rr (by decide) hc8] at q; exact q)
  have f103 := E12.wr W101
  have f104 := Scs.wr W101
  have f105 := Ssx.wr W101
  have f106 := Sad.wr W101
  have f107 := Shi.wr W101
  have f108 := Slo.wr W101
  have Z101 := Nat.le_trans Z0 (Keep.of_wr W101).1
  have N101 := Fr.snoc X101 N0 g12
  refine DoneW.step st101 ?_
  show DoneW p e below s _ _ _ (T101.setTop (mkF m 277 #[vi p1, vi p2, vi p3, vi p4, vi p5, vi x5, vi x6, vi x7, vi x8, vi x9, vu, vu, vu, vu] [(.ref a12)]))
  refine DoneW.step (fun t k => XS.dup X101.here hx rfl (hb hby at_277) rfl rfl k) ?_
  show DoneW p e below s _ _ _ (T101.setTop (mkF m 278 #[vi p1, vi p2, vi p3, vi p4, vi p5, vi x5, vi x6, vi x7, vi x8, vi x9, vu, vu, vu, vu] [(.ref a12), (.ref a12)]))
  refine DoneW.step (fun t k => XS.bipush X101.here hx rfl (hb hby at_278) k) ?_
  show DoneW p e below s _ _ _ (T101.setTop (mkF m 280 #[vi p1, vi p2, vi p3, vi p4, vi p5, vi x5, vi x6, vi x7, vi x8, vi x9, vu, vu, vu, vu] [(.int 9), (.ref a12), (.ref a12)]))
  refine DoneW.step (fun t k => XS.iload X101.here hx rfl (hb hby at_280) rfl k) ?_
  show DoneW p e below s _ _ _ (T101.setTop (mkF m 282 #[vi p1, vi p2, vi p3, vi p4, vi p5, vi x5, vi x6, vi x7, vi x8, vi x9, vu, vu, vu, vu] [(.int x8), (.int 9), (.ref a12), (.ref a12)]))
  obtain ⟨T109, h109, X109, e109, W109, A109, st109⟩ := stoC X101 hx hZ e101 f102 (j := (9 : Int32)) (by decide) (i := 9) (by decide) (by rw [List.length_map, RR.len (by decide)]; decide) (g := (mkF m 282 #[vi p1, vi p2, vi p3, vi p4, vi p5, vi x5, vi x6, vi x7, vi x8, vi x9, vu, vu, vu, vu] [(.int x8), (.int 9), (.ref a12), (.ref a12)])) rfl rfl (hb hby at_282)
  have f110 : Ax Z h109 a12 .char ((RR 64 10 x8).map Value.int) := (by have q := A109; rw [own_rr (by decide) hc8] at q; exact q)
  have f111 := f103.wr W109
  have f112 := f104.wr W109
  have f113 := f105.wr W109
  have f114 := f106.wr W109
  have f115 := f107.wr W109
  have f116 := f108.wr W109
  have Z109 := Nat.le_trans Z101 (Keep.of_wr W109).1
  have N109 := Fr.snoc X109 N101 g12
  refine DoneW.step st109 ?_
  show DoneW p e below s _ _ _ (T109.setTop (mkF m 283 #[vi p1, vi p2, vi p3, vi p4, vi p5, vi x5, vi x6, vi x7, vi x8, vi x9, vu, vu, vu, vu] [(.ref a12)]))
  refine DoneW.step (fun t k => XS.dup X109.here hx rfl (hb hby at_283) rfl rfl k) ?_
  show DoneW p e below s _ _ _ (T109.setTop (mkF m 284 #[vi p1, vi p2, vi p3, vi p4, vi p5, vi x5, vi x6, vi x7, vi x8, vi x9, vu, vu, vu, vu] [(.ref a12), (.ref a12)]))
  refine DoneW.step (fun t k => XS.bipush X109.here hx rfl (hb hby at_284) k) ?_
  show DoneW p e below s _ _ _ (T109.setTop (mkF m 286 #[vi p1, vi p2, vi p3, vi p4, vi p5, vi x5, vi x6, vi x7, vi x8, vi x9, vu, vu, vu, vu] [(.int 10), (.ref a12), (.ref a12)]))
  refine DoneW.step (fun t k => XS.iload X109.here hx rfl (hb hby at_286) rfl k) ?_
  show DoneW p e below s _ _ _ (T109.setTop (mkF m 288 #[vi p1, vi p2, vi p3, vi p4, vi p5, vi x5, vi x6, vi x7, vi x8, vi x9, vu, vu, vu, vu] [(.int x8), (.int 10), (.ref a12), (.ref a12)]))
  obtain ⟨T117, h117, X117, e117, W117, A117, st117⟩ := stoC X109 hx hZ e109 f110 (j := (10 : Int32)) (by decide) (i := 10) (by decide) (by rw [List.length_map, RR.len (by decide)]; decide) (g := (mkF m 288 #[vi p1, vi p2, vi p3, vi p4, vi p5, vi x5, vi x6, vi x7, vi x8, vi x9, vu, vu, vu, vu] [(.int x8), (.int 10), (.ref a12), (.ref a12)])) rfl rfl (hb hby at_288)
  have f118 : Ax Z h117 a12 .char ((RR 64 11 x8).map Value.int) := (by have q := A117; rw [own_rr (by decide) hc8] at q; exact q)
  have f119 := f111.wr W117
  have f120 := f112.wr W117
  have f121 := f113.wr W117
  have f122 := f114.wr W117
  have f123 := f115.wr W117
  have f124 := f116.wr W117
  have Z117 := Nat.le_trans Z109 (Keep.of_wr W117).1
  have N117 := Fr.snoc X117 N109 g12
  refine DoneW.step st117 ?_
  show DoneW p e below s _ _ _ (T117.setTop (mkF m 289 #[vi p1, vi p2, vi p3, vi p4, vi p5, vi x5, vi x6, vi x7, vi x8, vi x9, vu, vu, vu, vu] [(.ref a12)]))
  refine DoneW.step (fun t k => XS.dup X117.here hx rfl (hb hby at_289) rfl rfl k) ?_
  show DoneW p e below s _ _ _ (T117.setTop (mkF m 290 #[vi p1, vi p2, vi p3, vi p4, vi p5, vi x5, vi x6, vi x7, vi x8, vi x9, vu, vu, vu, vu] [(.ref a12), (.ref a12)]))
  refine DoneW.step (fun t k => XS.bipush X117.here hx rfl (hb hby at_290) k) ?_
  show DoneW p e below s _ _ _ (T117.setTop (mkF m 292 #[vi p1, vi p2, vi p3, vi p4, vi p5, vi x5, vi x6, vi x7, vi x8, vi x9, vu, vu, vu, vu] [(.int 11), (.ref a12), (.ref a12)]))
  refine DoneW.step (fun t k => XS.iload X117.here hx rfl (hb hby at_292) rfl k) ?_
  show DoneW p e below s _ _ _ (T117.setTop (mkF m 294 #[vi p1, vi p2, vi p3, vi p4, vi p5, vi x5, vi x6, vi x7, vi x8, vi x9, vu, vu, vu, vu] [(.int x8), (.int 11), (.ref a12), (.ref a12)]))
  obtain ⟨T125, h125, X125, e125, W125, A125, st125⟩ := stoC X117 hx hZ e117 f118 (j := (11 : Int32)) (by decide) (i := 11) (by decide) (by rw [List.length_map, RR.len (by decide)]; decide) (g := (mkF m 294 #[vi p1, vi p2, vi p3, vi p4, vi p5, vi x5, vi x6, vi x7, vi x8, vi x9, vu, vu, vu, vu] [(.int x8), (.int 11), (.ref a12), (.ref a12)])) rfl rfl (hb hby at_294)
  have f126 : Ax Z h125 a12 .char ((RR 64 12 x8).map Value.int) := (by have q := A125; rw [own_rr (by decide) hc8] at q; exact q)
  have f127 := f119.wr W125
  have f128 := f120.wr W125
  have f129 := f121.wr W125
  have f130 := f122.wr W125
  have f131 := f123.wr W125
  have f132 := f124.wr W125
  have Z125 := Nat.le_trans Z117 (Keep.of_wr W125).1
  have N125 := Fr.snoc X125 N117 g12
  refine DoneW.step st125 ?_
  show DoneW p e below s _ _ _ (T125.setTop (mkF m 295 #[vi p1, vi p2, vi p3, vi p4, vi p5, vi x5, vi x6, vi x7, vi x8, vi x9, vu, vu, vu, vu] [(.ref a12)]))
  refine DoneW.step (fun t k => XS.dup X125.here hx rfl (hb hby at_295) rfl rfl k) ?_
  show DoneW p e below s _ _ _ (T125.setTop (mkF m 296 #[vi p1, vi p2, vi p3, vi p4, vi p5, vi x5, vi x6, vi x7, vi x8, vi x9, vu, vu, vu, vu] [(.ref a12), (.ref a12)]))
  refine DoneW.step (fun t k => XS.bipush X125.here hx rfl (hb hby at_296) k) ?_
  show DoneW p e below s _ _ _ (T125.setTop (mkF m 298 #[vi p1, vi p2, vi p3, vi p4, vi p5, vi x5, vi x6, vi x7, vi x8, vi x9, vu, vu, vu, vu] [(.int 12), (.ref a12), (.ref a12)]))
  refine DoneW.step (fun t k => XS.iload X125.here hx rfl (hb hby at_298) rfl k) ?_
  show DoneW p e below s _ _ _ (T125.setTop (mkF m 300 #[vi p1, vi p2, vi p3, vi p4, vi p5, vi x5, vi x6, vi x7, vi x8, vi x9, vu, vu, vu, vu] [(.int x8), (.int 12), (.ref a12), (.ref a12)]))
  obtain ⟨T133, h133, X133, e133, W133, A133, st133⟩ := stoC X125 hx hZ e125 f126 (j := (12 : Int32)) (by decide) (i := 12) (by decide) (by rw [List.length_map, RR.len (by decide)]; decide) (g := (mkF m 300 #[vi p1, vi p2, vi p3, vi p4, vi p5, vi x5, vi x6, vi x7, vi x8, vi x9, vu, vu, vu, vu] [(.int x8), (.int 12), (.ref a12), (.ref a12)])) rfl rfl (hb hby at_300)
  have f134 : Ax Z h133 a12 .char ((RR 64 13 x8).map Value.int) := (by have q := A133; rw [own_rr (by decide) hc8] at q; exact q)
  have f135 := f127.wr W133
  have f136 := f128.wr W133
  have f137 := f129.wr W133
  have f138 := f130.wr W133
  have f139 := f131.wr W133
  have f140 := f132.wr W133
  have Z133 := Nat.le_trans Z125 (Keep.of_wr W133).1
  have N133 := Fr.snoc X133 N125 g12
  refine DoneW.step st133 ?_
  show DoneW p e below s _ _ _ (T133.setTop (mkF m 301 #[vi p1, vi p2, vi p3, vi p4, vi p5, vi x5, vi x6, vi x7, vi x8, vi x9, vu, vu, vu, vu] [(.ref a12)]))
  refine DoneW.step (fun t k => XS.dup X133.here hx rfl (hb hby at_301) rfl rfl k) ?_
  show DoneW p e below s _ _ _ (T133.setTop (mkF m 302 #[vi p1, vi p2, vi p3, vi p4, vi p5, vi x5, vi x6, vi x7, vi x8, vi x9, vu, vu, vu, vu] [(.ref a12), (.ref a12)]))
  refine DoneW.step (fun t k => XS.bipush X133.here hx rfl (hb hby at_302) k) ?_
  show DoneW p e below s _ _ _ (T133.setTop (mkF m 304 #[vi p1, vi p2, vi p3, vi p4, vi p5, vi x5, vi x6, vi x7, vi x8, vi x9, vu, vu, vu, vu] [(.int 13), (.ref a12), (.ref a12)]))
  refine DoneW.step (fun t k => XS.iload X133.here hx rfl (hb hby at_304) rfl k) ?_
  show DoneW p e below s _ _ _ (T133.setTop (mkF m 306 #[vi p1, vi p2, vi p3, vi p4, vi p5, vi x5, vi x6, vi x7, vi x8, vi x9, vu, vu, vu, vu] [(.int x8), (.int 13), (.ref a12), (.ref a12)]))
  obtain ⟨T141, h141, X141, e141, W141, A141, st141⟩ := stoC X133 hx hZ e133 f134 (j := (13 : Int32)) (by decide) (i := 13) (by decide) (by rw [List.length_map, RR.len (by decide)]; decide) (g := (mkF m 306 #[vi p1, vi p2, vi p3, vi p4, vi p5, vi x5, vi x6, vi x7, vi x8, vi x9, vu, vu, vu, vu] [(.int x8), (.int 13), (.ref a12), (.ref a12)])) rfl rfl (hb hby at_306)
  have f142 : Ax Z h141 a12 .char ((RR 64 14 x8).map Value.int) := (by have q := A141; rw [own_rr (by decide) hc8] at q; exact q)
  have f143 := f135.wr W141
  have f144 := f136.wr W141
  have f145 := f137.wr W141
  have f146 := f138.wr W141
  have f147 := f139.wr W141
  have f148 := f140.wr W141
  have Z141 := Nat.le_trans Z133 (Keep.of_wr W141).1
  have N141 := Fr.snoc X141 N133 g12
  refine DoneW.step st141 ?_
  show DoneW p e below s _ _ _ (T141.setTop (mkF m 307 #[vi p1, vi p2, vi p3, vi p4, vi p5, vi x5, vi x6, vi x7, vi x8, vi x9, vu, vu, vu, vu] [(.ref a12)]))
  refine DoneW.step (fun t k => XS.dup X141.here hx rfl (hb hby at_307) rfl rfl k) ?_
  show DoneW p e below s _ _ _ (T141.setTop (mkF m 308 #[vi p1, vi p2, vi p3, vi p4, vi p5, vi x5, vi x6, vi x7, vi x8, vi x9, vu, vu, vu, vu] [(.ref a12), (.ref a12)]))
  refine DoneW.step (fun t k => XS.bipush X141.here hx rfl (hb hby at_308) k) ?_
  show DoneW p e below s _ _ _ (T141.setTop (mkF m 310 #[vi p1, vi p2, vi p3, vi p4, vi p5, vi x5, vi x6, vi x7, vi x8, vi x9, vu, vu, vu, vu] [(.int 14), (.ref a12), (.ref a12)]))
  refine DoneW.step (fun t k => XS.iload X141.here hx rfl (hb hby at_310) rfl k) ?_
  show DoneW p e below s _ _ _ (T141.setTop (mkF m 312 #[vi p1, vi p2, vi p3, vi p4, vi p5, vi x5, vi x6, vi x7, vi x8, vi x9, vu, vu, vu, vu] [(.int x8), (.int 14), (.ref a12), (.ref a12)]))
  obtain ⟨T149, h149, X149, e149, W149, A149, st149⟩ := stoC X141 hx hZ e141 f142 (j := (14 : Int32)) (by decide) (i := 14) (by decide) (by rw [List.length_map, RR.len (by decide)]; decide) (g := (mkF m 312 #[vi p1, vi p2, vi p3, vi p4, vi p5, vi x5, vi x6, vi x7, vi x8, vi x9, vu, vu, vu, vu] [(.int x8), (.int 14), (.ref a12), (.ref a12)])) rfl rfl (hb hby at_312)
  have f150 : Ax Z h149 a12 .char ((RR 64 15 x8).map Value.int) := (by have q := A149; rw [own_rr (by decide) hc8] at q; exact q)
  have f151 := f143.wr W149
  have f152 := f144.wr W149
  have f153 := f145.wr W149
  have f154 := f146.wr W149
  have f155 := f147.wr W149
  have f156 := f148.wr W149
  have Z149 := Nat.le_trans Z141 (Keep.of_wr W149).1
  have N149 := Fr.snoc X149 N141 g12
  refine DoneW.step st149 ?_
  show DoneW p e below s _ _ _ (T149.setTop (mkF m 313 #[vi p1, vi p2, vi p3, vi p4, vi p5, vi x5, vi x6, vi x7, vi x8, vi x9, vu, vu, vu, vu] [(.ref a12)]))
  refine DoneW.step (fun t k => XS.dup X149.here hx rfl (hb hby at_313) rfl rfl k) ?_
  show DoneW p e below s _ _ _ (T149.setTop (mkF m 314 #[vi p1, vi p2, vi p3, vi p4, vi p5, vi x5, vi x6, vi x7, vi x8, vi x9, vu, vu, vu, vu] [(.ref a12), (.ref a12)]))
  refine DoneW.step (fun t k => XS.bipush X149.here hx rfl (hb hby at_314) k) ?_
  show DoneW p e below s _ _ _ (T149.setTop (mkF m 316 #[vi p1, vi p2, vi p3, vi p4, vi p5, vi x5, vi x6, vi x7, vi x8, vi x9, vu, vu, vu, vu] [(.int 15), (.ref a12), (.ref a12)]))
  refine DoneW.step (fun t k => XS.iload X149.here hx rfl (hb hby at_316) rfl k) ?_
  show DoneW p e below s _ _ _ (T149.setTop (mkF m 318 #[vi p1, vi p2, vi p3, vi p4, vi p5, vi x5, vi x6, vi x7, vi x8, vi x9, vu, vu, vu, vu] [(.int x8), (.int 15), (.ref a12), (.ref a12)]))
  obtain ⟨T157, h157, X157, e157, W157, A157, st157⟩ := stoC X149 hx hZ e149 f150 (j := (15 : Int32)) (by decide) (i := 15) (by decide) (by rw [List.length_map, RR.len (by decide)]; decide) (g := (mkF m 318 #[vi p1, vi p2, vi p3, vi p4, vi p5, vi x5, vi x6, vi x7, vi x8, vi x9, vu, vu, vu, vu] [(.int x8), (.int 15), (.ref a12), (.ref a12)])) rfl rfl (hb hby at_318)
  have f158 : Ax Z h157 a12 .char ((RR 64 16 x8).map Value.int) := (by have q := A157; rw [own_rr (by decide) hc8] at q; exact q)
  have f159 := f151.wr W157
  have f160 := f152.wr W157
  have f161 := f153.wr W157
  have f162 := f154.wr W157
  have f163 := f155.wr W157
  have f164 := f156.wr W157
  have Z157 := Nat.le_trans Z149 (Keep.of_wr W157).1
  have N157 := Fr.snoc X157 N149 g12
  refine DoneW.step st157 ?_
  show DoneW p e below s _ _ _ (T157.setTop (mkF m 319 #[vi p1, vi p2, vi p3, vi p4, vi p5, vi x5, vi x6, vi x7, vi x8, vi x9, vu, vu, vu, vu] [(.ref a12)]))
  exact fill319 p1 p2 p3 p4 p5 x5 x6 x7 x8 x9 a12 cs sv X157 hx hZ hw hby hml hown hlk hret hnm N157 Z157 e157 f158 f159 g12 f160 f161 hsv f162 f163 f164 hcs hr5 hr6 hr7 hr8 hc5 hc6 hc7 hc8
set_option maxRecDepth 65536 in
set_option maxHeartbeats 40000000 in
theorem fill229 {p : Program} {l : Launch} {e : Env} {s : State} {m : MethodId} {args : Array Value} {below : List Frame} {meth : Method} {c : Code} {T : State} {locs : List Loc} {Z : State} {a0 : Array Value} {h0 : Heap} {n0 : Nat} (p1 p2 p3 p4 p5 x5 x6 x7 x8 x9 : Int32) (a12 : Addr) (cs : Int32) (sv : Value)
    (X0 : Stand p l e room_1 s m args below meth c T locs 1 64) (hx : p.tables.exec = Jvm.exec) (hZ : Z.Warmed39 s.vm) (hw : HH a0 Z) (hby : c.code = code) (hml : c.maxLocals = 14) (hown : s.vm.findClass "com/example/stowage/stowage/model/NamesIsNamePinLaw" = some m.cls) (hlk : meth.locks = false) (hret : meth.sig.returnType = ret) (hnm : meth.name = "law") (N0 : Fr n0 locs) (Z0 : n0 ≤ h0.size) (e0 : T.heap = h0) (A12 : Ax Z h0 a12 .char ((RR 64 0 x8).map Value.int)) (E12 : Fl4 Z h0 a12) (g12 : n0 ≤ a12) (Scs : Sta Z h0 "java/lang/String" "COMPACT_STRINGS" "Z" (.int cs)) (Ssx : Sta Z h0 "jdk/internal/util/Preconditions" "SIOOBE_FORMATTER" "Ljava/util/function/BiFunction;" sv) (hsv : sv.isRef = true) (Sad : Sta Z h0 "java/lang/StringUTF16" "$assertionsDisabled" "Z" (.int 1)) (Shi : Sta Z h0 "java/lang/StringUTF16" "HI_BYTE_SHIFT" "I" (.int 0)) (Slo : Sta Z h0 "java/lang/StringUTF16" "LO_BYTE_SHIFT" "I" (.int 8)) (hcs : ¬ cs = (0 : Int32)) (hr5 : 0 ≤ x5.toInt ∧ x5.toInt < 65536) (hr6 : 0 ≤ x6.toInt ∧ x6.toInt < 65536) (hr7 : 0 ≤ x7.toInt ∧ x7.toInt < 65536) (hr8 : 0 ≤ x8.toInt ∧ x8.toInt < 65536) (hc5 : nar .char x5 = x5) (hc6 : nar .char x6 = x6) (hc7 : nar .char x7 = x7) (hc8 : nar .char x8 = x8) :
    DoneW p e below s (fun v h L => v = some (.int 1) ∧ Fr n0 L) room_1.cells room_1.slots (T.setTop (mkF m 229 #[vi p1, vi p2, vi p3, vi p4, vi p5, vi x5, vi x6, vi x7, vi x8, vi x9, vu, vu, vu, vu] [(.ref a12)])) := by
  show DoneW p e below s _ _ _ (T.setTop (mkF m 229 #[vi p1, vi p2, vi p3, vi p4, vi p5, vi x5, vi x6, vi x7, vi x8, vi x9, vu, vu, vu, vu] [(.ref a12)]))
  refine DoneW.step (fun t k => XS.dup X0.here hx rfl (hb hby at_229) rfl rfl k) ?_
  show DoneW p e below s _ _ _ (T.setTop (mkF m 230 #[vi p1, vi p2, vi p3, vi p4, vi p5, vi x5, vi x6, vi x7, vi x8, vi x9, vu, vu, vu, vu] [(.ref a12), (.ref a12)]))
  refine DoneW.step (fun t k => XS.iconst X0.here hx rfl (hb hby at_230) k) ?_
  show DoneW p e below s _ _ _ (T.setTop (mkF m 231 #[vi p1, vi p2, vi p3, vi p4, vi p5, vi x5, vi x6, vi x7, vi x8, vi x9, vu, vu, vu, vu] [(.int 0), (.ref a12), (.ref a12)]))
  refine DoneW.step (fun t k => XS.iload X0.here hx rfl (hb hby at_231) rfl k) ?_
  show DoneW p e below s _ _ _ (T.setTop (mkF m 233 #[vi p1, vi p2, vi p3, vi p4, vi p5, vi x5, vi x6, vi x7, vi x8, vi x9, vu, vu, vu, vu] [(.int x8), (.int 0), (.ref a12), (.ref a12)]))
  obtain ⟨T101, h101, X101, e101, W101, A101, st101⟩ := stoC X0 hx hZ e0 A12 (j := (0 : Int32)) (by decide) (i := 0) (by decide) (by rw [List.length_map, RR.len (by decide)]; decide) (g := (mkF m 233 #[vi p1, vi p2, vi p3, vi p4, vi p5, vi x5, vi x6, vi x7, vi x8, vi x9, vu, vu, vu, vu] [(.int x8), (.int 0), (.ref a12), (.ref a12)])) rfl rfl (hb hby at_233)
  have f102 : Ax Z h101 a12 .char ((RR 64 1 x8).map Value.int) := (by have q := A101; rw [own_rr (by decide) hc8] at q; exact q)
  have f103 := E12.wr W101
  have f104 := Scs.wr W101
  have f105 := Ssx.wr W101
  have f106 := Sad.wr W101
  have f107 := Shi.wr W101
  have f108 := Slo.wr W101
  have Z101 := Nat.le_trans Z0 (Keep.of_wr W101).1
  have N101 := Fr.snoc X101 N0 g12
  refine DoneW.step st101 ?_
  show DoneW p e below s _ _ _ (T101.setTop (mkF m 234 #[vi p1, vi p2, vi p3, vi p4, vi p5, vi x5, vi x6, vi x7, vi x8, vi x9, vu, vu, vu, vu] [(.ref a12)]))
  refine DoneW.step (fun t k => XS.dup X101.here hx rfl (hb hby at_234) rfl rfl k) ?_
  show DoneW p e below s _ _ _ (T101.setTop (mkF m 235 #[vi p1, vi p2, vi p3, vi p4, vi p5, vi x5, vi x6, vi x7, vi x8, vi x9, vu, vu, vu, vu] [(.ref a12), (.ref a12)]))
  refine DoneW.step (fun t k => XS.iconst X101.here hx rfl (hb hby at_235) k) ?_
  show DoneW p e below s _ _ _ (T101.setTop (mkF m 236 #[vi p1, vi p2, vi p3, vi p4, vi p5, vi x5, vi x6, vi x7, vi x8, vi x9, vu, vu, vu, vu] [(.int 1), (.ref a12), (.ref a12)]))
  refine DoneW.step (fun t k => XS.iload X101.here hx rfl (hb hby at_236) rfl k) ?_
  show DoneW p e below s _ _ _ (T101.setTop (mkF m 238 #[vi p1, vi p2, vi p3, vi p4, vi p5, vi x5, vi x6, vi x7, vi x8, vi x9, vu, vu, vu, vu] [(.int x8), (.int 1), (.ref a12), (.ref a12)]))
  obtain ⟨T109, h109, X109, e109, W109, A109, st109⟩ := stoC X101 hx hZ e101 f102 (j := (1 : Int32)) (by decide) (i := 1) (by decide) (by rw [List.length_map, RR.len (by decide)]; decide) (g := (mkF m 238 #[vi p1, vi p2, vi p3, vi p4, vi p5, vi x5, vi x6, vi x7, vi x8, vi x9, vu, vu, vu, vu] [(.int x8), (.int 1), (.ref a12), (.ref a12)])) rfl rfl (hb hby at_238)
  have f110 : Ax Z h109 a12 .char ((RR 64 2 x8).map Value.int) := (by have q := A109; rw [own_rr (by decide) hc8] at q; exact q)
  have f111 := f103.wr W109
  have f112 := f104.wr W109
  have f113 := f105.wr W109
  have f114 := f106.wr W109
  have f115 := f107.wr W109
  have f116 := f108.wr W109
  have Z109 := Nat.le_trans Z101 (Keep.of_wr W109).1
  have N109 := Fr.snoc X109 N101 g12
  refine DoneW.step st109 ?_
  show DoneW p e below s _ _ _ (T109.setTop (mkF m 239 #[vi p1, vi p2, vi p3, vi p4, vi p5, vi x5, vi x6, vi x7, vi x8, vi x9, vu, vu, vu, vu] [(.ref a12)]))
  refine DoneW.step (fun t k => XS.dup X109.here hx rfl (hb hby at_239) rfl rfl k) ?_
  show DoneW p e below s _ _ _ (T109.setTop (mkF m 240 #[vi p1, vi p2, vi p3, vi p4, vi p5, vi x5, vi x6, vi x7, vi x8, vi x9, vu, vu, vu, vu] [(.ref a12), (.ref a12)]))
  refine DoneW.step (fun t k => XS.iconst X109.here hx rfl (hb hby at_240) k) ?_
  show DoneW p e below s _ _ _ (T109.setTop (mkF m 241 #[vi p1, vi p2, vi p3, vi p4, vi p5, vi x5, vi x6, vi x7, vi x8, vi x9, vu, vu, vu, vu] [(.int 2), (.ref a12), (.ref a12)]))
  refine DoneW.step (fun t k => XS.iload X109.here hx rfl (hb hby at_241) rfl k) ?_
  show DoneW p e below s _ _ _ (T109.setTop (mkF m 243 #[vi p1, vi p2, vi p3, vi p4, vi p5, vi x5, vi x6, vi x7, vi x8, vi x9, vu, vu, vu, vu] [(.int x8), (.int 2), (.ref a12), (.ref a12)]))
  obtain ⟨T117, h117, X117, e117, W117, A117, st117⟩ := stoC X109 hx hZ e109 f110 (j := (2 : Int32)) (by decide) (i := 2) (by decide) (by rw [List.length_map, RR.len (by decide)]; decide) (g := (mkF m 243 #[vi p1, vi p2, vi p3, vi p4, vi p5, vi x5, vi x6, vi x7, vi x8, vi x9, vu, vu, vu, vu] [(.int x8), (.int 2), (.ref a12), (.ref a12)])) rfl rfl (hb hby at_243)
  have f118 : Ax Z h117 a12 .char ((RR 64 3 x8).map Value.int) := (by have q := A117; rw [own_rr (by decide) hc8] at q; exact q)
  have f119 := f111.wr W117
  have f120 := f112.wr W117
  have f121 := f113.wr W117
  have f122 := f114.wr W117
  have f123 := f115.wr W117
  have f124 := f116.wr W117
  have Z117 := Nat.le_trans Z109 (Keep.of_wr W117).1
  have N117 := Fr.snoc X117 N109 g12
  refine DoneW.step st117 ?_
  show DoneW p e below s _ _ _ (T117.setTop (mkF m 244 #[vi p1, vi p2, vi p3, vi p4, vi p5, vi x5, vi x6, vi x7, vi x8, vi x9, vu, vu, vu, vu] [(.ref a12)]))
  refine DoneW.step (fun t k => XS.dup X117.here hx rfl (hb hby at_244) rfl rfl k) ?_
  show DoneW p e below s _ _ _ (T117.setTop (mkF m 245 #[vi p1, vi p2, vi p3, vi p4, vi p5, vi x5, vi x6, vi x7, vi x8, vi x9, vu, vu, vu, vu] [(.ref a12), (.ref a12)]))
  refine DoneW.step (fun t k => XS.iconst X117.here hx rfl (hb hby at_245) k) ?_
  show DoneW p e below s _ _ _ (T117.setTop (mkF m 246 #[vi p1, vi p2, vi p3, vi p4, vi p5, vi x5, vi x6, vi x7, vi x8, vi x9, vu, vu, vu, vu] [(.int 3), (.ref a12), (.ref a12)]))
  refine DoneW.step (fun t k => XS.iload X117.here hx rfl (hb hby at_246) rfl k) ?_
  show DoneW p e below s _ _ _ (T117.setTop (mkF m 248 #[vi p1, vi p2, vi p3, vi p4, vi p5, vi x5, vi x6, vi x7, vi x8, vi x9, vu, vu, vu, vu] [(.int x8), (.int 3), (.ref a12), (.ref a12)]))
  obtain ⟨T125, h125, X125, e125, W125, A125, st125⟩ := stoC X117 hx hZ e117 f118 (j := (3 : Int32)) (by decide) (i := 3) (by decide) (by rw [List.length_map, RR.len (by decide)]; decide) (g := (mkF m 248 #[vi p1, vi p2, vi p3, vi p4, vi p5, vi x5, vi x6, vi x7, vi x8, vi x9, vu, vu, vu, vu] [(.int x8), (.int 3), (.ref a12), (.ref a12)])) rfl rfl (hb hby at_248)
  have f126 : Ax Z h125 a12 .char ((RR 64 4 x8).map Value.int) := (by have q := A125; rw [own_rr (by decide) hc8] at q; exact q)
  have f127 := f119.wr W125
  have f128 := f120.wr W125
  have f129 := f121.wr W125
  have f130 := f122.wr W125
  have f131 := f123.wr W125
  have f132 := f124.wr W125
  have Z125 := Nat.le_trans Z117 (Keep.of_wr W125).1
  have N125 := Fr.snoc X125 N117 g12
  refine DoneW.step st125 ?_
  show DoneW p e below s _ _ _ (T125.setTop (mkF m 249 #[vi p1, vi p2, vi p3, vi p4, vi p5, vi x5, vi x6, vi x7, vi x8, vi x9, vu, vu, vu, vu] [(.ref a12)]))
  refine DoneW.step (fun t k => XS.dup X125.here hx rfl (hb hby at_249) rfl rfl k) ?_
  show DoneW p e below s _ _ _ (T125.setTop (mkF m 250 #[vi p1, vi p2, vi p3, vi p4, vi p5, vi x5, vi x6, vi x7, vi x8, vi x9, vu, vu, vu, vu] [(.ref a12), (.ref a12)]))
  refine DoneW.step (fun t k => XS.iconst X125.here hx rfl (hb hby at_250) k) ?_
  show DoneW p e below s _ _ _ (T125.setTop (mkF m 251 #[vi p1, vi p2, vi p3, vi p4, vi p5, vi x5, vi x6, vi x7, vi x8, vi x9, vu, vu, vu, vu] [(.int 4), (.ref a12), (.ref a12)]))
  refine DoneW.step (fun t k => XS.iload X125.here hx rfl (hb hby at_251) rfl k) ?_
  show DoneW p e below s _ _ _ (T125.setTop (mkF m 253 #[vi p1, vi p2, vi p3, vi p4, vi p5, vi x5, vi x6, vi x7, vi x8, vi x9, vu, vu, vu, vu] [(.int x8), (.int 4), (.ref a12), (.ref a12)]))
  obtain ⟨T133, h133, X133, e133, W133, A133, st133⟩ := stoC X125 hx hZ e125 f126 (j := (4 : Int32)) (by decide) (i := 4) (by decide) (by rw [List.length_map, RR.len (by decide)]; decide) (g := (mkF m 253 #[vi p1, vi p2, vi p3, vi p4, vi p5, vi x5, vi x6, vi x7, vi x8, vi x9, vu, vu, vu, vu] [(.int x8), (.int 4), (.ref a12), (.ref a12)])) rfl rfl (hb hby at_253)
  have f134 : Ax Z h133 a12 .char ((RR 64 5 x8).map Value.int) := (by have q := A133; rw [own_rr (by decide) hc8] at q; exact q)
  have f135 := f127.wr W133
  have f136 := f128.wr W133
  have f137 := f129.wr W133
  have f138 := f130.wr W133
  have f139 := f131.wr W133
  have f140 := f132.wr W133
  have Z133 := Nat.le_trans Z125 (Keep.of_wr W133).1
  have N133 := Fr.snoc X133 N125 g12
  refine DoneW.step st133 ?_
  show DoneW p e below s _ _ _ (T133.setTop (mkF m 254 #[vi p1, vi p2, vi p3, vi p4, vi p5, vi x5, vi x6, vi x7, vi x8, vi x9, vu, vu, vu, vu] [(.ref a12)]))
  refine DoneW.step (fun t k => XS.dup X133.here hx rfl (hb hby at_254) rfl rfl k) ?_
  show DoneW p e below s _ _ _ (T133.setTop (mkF m 255 #[vi p1, vi p2, vi p3, vi p4, vi p5, vi x5, vi x6, vi x7, vi x8, vi x9, vu, vu, vu, vu] [(.ref a12), (.ref a12)]))
  refine DoneW.step (fun t k => XS.iconst X133.here hx rfl (hb hby at_255) k) ?_
  show DoneW p e below s _ _ _ (T133.setTop (mkF m 256 #[vi p1, vi p2, vi p3, vi p4, vi p5, vi x5, vi x6, vi x7, vi x8, vi x9, vu, vu, vu, vu] [(.int 5), (.ref a12), (.ref a12)]))
  refine DoneW.step (fun t k => XS.iload X133.here hx rfl (hb hby at_256) rfl k) ?_
  show DoneW p e below s _ _ _ (T133.setTop (mkF m 258 #[vi p1, vi p2, vi p3, vi p4, vi p5, vi x5, vi x6, vi x7, vi x8, vi x9, vu, vu, vu, vu] [(.int x8), (.int 5), (.ref a12), (.ref a12)]))
  obtain ⟨T141, h141, X141, e141, W141, A141, st141⟩ := stoC X133 hx hZ e133 f134 (j := (5 : Int32)) (by decide) (i := 5) (by decide) (by rw [List.length_map, RR.len (by decide)]; decide) (g := (mkF m 258 #[vi p1, vi p2, vi p3, vi p4, vi p5, vi x5, vi x6, vi x7, vi x8, vi x9, vu, vu, vu, vu] [(.int x8), (.int 5), (.ref a12), (.ref a12)])) rfl rfl (hb hby at_258)
  have f142 : Ax Z h141 a12 .char ((RR 64 6 x8).map Value.int) := (by have q := A141; rw [own_rr (by decide) hc8] at q; exact q)
  have f143 := f135.wr W141
  have f144 := f136.wr W141
  have f145 := f137.wr W141
  have f146 := f138.wr W141
  have f147 := f139.wr W141
  have f148 := f140.wr W141
  have Z141 := Nat.le_trans Z133 (Keep.of_wr W141).1
  have N141 := Fr.snoc X141 N133 g12
  refine DoneW.step st141 ?_
  show DoneW p e below s _ _ _ (T141.setTop (mkF m 259 #[vi p1, vi p2, vi p3, vi p4, vi p5, vi x5, vi x6, vi x7, vi x8, vi x9, vu, vu, vu, vu] [(.ref a12)]))
  refine DoneW.step (fun t k => XS.dup X141.here hx rfl (hb hby at_259) rfl rfl k) ?_
  show DoneW p e below s _ _ _ (T141.setTop (mkF m 260 #[vi p1, vi p2, vi p3, vi p4, vi p5, vi x5, vi x6, vi x7, vi x8, vi x9, vu, vu, vu, vu] [(.ref a12), (.ref a12)]))
  refine DoneW.step (fun t k => XS.bipush X141.here hx rfl (hb hby at_260) k) ?_
  show DoneW p e below s _ _ _ (T141.setTop (mkF m 262 #[vi p1, vi p2, vi p3, vi p4, vi p5, vi x5, vi x6, vi x7, vi x8, vi x9, vu, vu, vu, vu] [(.int 6), (.ref a12), (.ref a12)]))
  refine DoneW.step (fun t k => XS.iload X141.here hx rfl (hb hby at_262) rfl k) ?_
  show DoneW p e below s _ _ _ (T141.setTop (mkF m 264 #[vi p1, vi p2, vi p3, vi p4, vi p5, vi x5, vi x6, vi x7, vi x8, vi x9, vu, vu, vu, vu] [(.int x8), (.int 6), (.ref a12), (.ref a12)]))
  obtain ⟨T149, h149, X149, e149, W149, A149, st149⟩ := stoC X141 hx hZ e141 f142 (j := (6 : Int32)) (by decide) (i := 6) (by decide) (by rw [List.length_map, RR.len (by decide)]; decide) (g := (mkF m 264 #[vi p1, vi p2, vi p3, vi p4, vi p5, vi x5, vi x6, vi x7, vi x8, vi x9, vu, vu, vu, vu] [(.int x8), (.int 6), (.ref a12), (.ref a12)])) rfl rfl (hb hby at_264)
  have f150 : Ax Z h149 a12 .char ((RR 64 7 x8).map Value.int) := (by have q := A149; rw [own_rr (by decide) hc8] at q; exact q)
  have f151 := f143.wr W149
  have f152 := f144.wr W149
  have f153 := f145.wr W149
  have f154 := f146.wr W149
  have f155 := f147.wr W149
  have f156 := f148.wr W149
  have Z149 := Nat.le_trans Z141 (Keep.of_wr W149).1
  have N149 := Fr.snoc X149 N141 g12
  refine DoneW.step st149 ?_
  show DoneW p e below s _ _ _ (T149.setTop (mkF m 265 #[vi p1, vi p2, vi p3, vi p4, vi p5, vi x5, vi x6, vi x7, vi x8, vi x9, vu, vu, vu, vu] [(.ref a12)]))
  refine DoneW.step (fun t k => XS.dup X149.here hx rfl (hb hby at_265) rfl rfl k) ?_
  show DoneW p e below s _ _ _ (T149.setTop (mkF m 266 #[vi p1, vi p2, vi p3, vi p4, vi p5, vi x5, vi x6, vi x7, vi x8, vi x9, vu, vu, vu, vu] [(.ref a12), (.ref a12)]))
  refine DoneW.step (fun t k => XS.bipush X149.here hx rfl (hb hby at_266) k) ?_
  show DoneW p e below s _ _ _ (T149.setTop (mkF m 268 #[vi p1, vi p2, vi p3, vi p4, vi p5, vi x5, vi x6, vi x7, vi x8, vi x9, vu, vu, vu, vu] [(.int 7), (.ref a12), (.ref a12)]))
  refine DoneW.step (fun t k => XS.iload X149.here hx rfl (hb hby at_268) rfl k) ?_
  show DoneW p e below s _ _ _ (T149.setTop (mkF m 270 #[vi p1, vi p2, vi p3, vi p4, vi p5, vi x5, vi x6, vi x7, vi x8, vi x9, vu, vu, vu, vu] [(.int x8), (.int 7), (.ref a12), (.ref a12)]))
  obtain ⟨T157, h157, X157, e157, W157, A157, st157⟩ := stoC X149 hx hZ e149 f150 (j := (7 : Int32)) (by decide) (i := 7) (by decide) (by rw [List.length_map, RR.len (by decide)]; decide) (g := (mkF m 270 #[vi p1, vi p2, vi p3, vi p4, vi p5, vi x5, vi x6, vi x7, vi x8, vi x9, vu, vu, vu, vu] [(.int x8), (.int 7), (.ref a12), (.ref a12)])) rfl rfl (hb hby at_270)
  have f158 : Ax Z h157 a12 .char ((RR 64 8 x8).map Value.int) := (by have q := A157; rw [own_rr (by decide) hc8] at q; exact q)
  have f159 := f151.wr W157
  have f160 := f152.wr W157
  have f161 := f153.wr W157
  have f162 := f154.wr W157
  have f163 := f155.wr W157
  have f164 := f156.wr W157
  have Z157 := Nat.le_trans Z149 (Keep.of_wr W157).1
  have N157 := Fr.snoc X157 N149 g12
  refine DoneW.step st157 ?_
  show DoneW p e below s _ _ _ (T157.setTop (mkF m 271 #[vi p1, vi p2, vi p3, vi p4, vi p5, vi x5, vi x6, vi x7, vi x8, vi x9, vu, vu, vu, vu] [(.ref a12)]))
  exact fill271 p1 p2 p3 p4 p5 x5 x6 x7 x8 x9 a12 cs sv X157 hx hZ hw hby hml hown hlk hret hnm N157 Z157 e157 f158 f159 g12 f160 f161 hsv f162 f163 f164 hcs hr5 hr6 hr7 hr8 hc5 hc6 hc7 hc8
set_option maxRecDepth 65536 in
set_option maxHeartbeats 40000000 in
theorem fill1086 {p : Program} {l : Launch} {e : Env} {s : State} {m : MethodId} {args : Array Value} {below : List Frame} {meth : Method} {c : Code} {T : State} {locs : List Loc} {Z : State} {a0 : Array Value} {h0 : Heap} {n0 : Nat} (p1 p2 p3 p4 p5 x5 x6 x7 x8 x9 : Int32) (a12 : Addr) (cs : Int32) (sv : Value)
    (X0 : Stand p l e room_1 s m args below meth c T locs 1 65) (hx : p.tables.exec = Jvm.exec) (hZ : Z.Warmed39 s.vm) (hw : HH a0 Z) (hby : c.code = code) (hml : c.maxLocals = 14) (hown : s.vm.findClass "com/example/stowage/stowage/model/NamesIsNamePinLaw" = some m.cls) (hlk : meth.locks = false) (hret : meth.sig.returnType = ret) (hnm : meth.name = "law") (N0 : Fr n0 locs) (Z0 : n0 ≤ h0.size) (e0 : T.heap = h0) (A12 : Ax Z h0 a12 .char ((RR 65 65 x8).map Value.int)) (E12 : Fl4 Z h0 a12) (g12 : n0 ≤ a12) (Scs : Sta Z h0 "java/lang/String" "COMPACT_STRINGS" "Z" (.int cs)) (Ssx : Sta Z h0 "jdk/internal/util/Preconditions" "SIOOBE_FORMATTER" "Ljava/util/function/BiFunction;" sv) (hsv : sv.isRef = true) (Sad : Sta Z h0 "java/lang/StringUTF16" "$assertionsDisabled" "Z" (.int 1)) (Shi : Sta Z h0 "java/lang/StringUTF16" "HI_BYTE_SHIFT" "I" (.int 0)) (Slo : Sta Z h0 "java/lang/StringUTF16" "LO_BYTE_SHIFT" "I" (.int 8)) (hcs : ¬ cs = (0 : Int32)) (hr5 : 0 ≤ x5.toInt ∧ x5.toInt < 65536) (hr6 : 0 ≤ x6.toInt ∧ x6.toInt < 65536) (hr7 : 0 ≤ x7.toInt ∧ x7.toInt < 65536) (hr8 : 0 ≤ x8.toInt ∧ x8.toInt < 65536) (hc5 : nar .char x5 = x5) (hc6 : nar .char x6 = x6) (hc7 : nar .char x7 = x7) (hc8 : nar .char x8 = x8) :
    DoneW p e below s (fun v h L => v = some (.int 1) ∧ Fr n0 L) room_1.cells room_1.slots (T.setTop (mkF m 1086 #[vi p1, vi p2, vi p3, vi p4, vi p5, vi x5, vi x6, vi x7, vi x8, vi x9, vu, vu, vu, vu] [(.ref a12)])) := by
  show DoneW p e below s _ _ _ (T.setTop (mkF m 1086 #[vi p1, vi p2, vi p3, vi p4, vi p5, vi x5, vi x6, vi x7, vi x8, vi x9, vu, vu, vu, vu] [(.ref a12)]))
  refine DoneW.step (fun t k => XS.astore X0.here hx rfl (hb hby at_1086) rfl rfl (l' := #[vi p1, vi p2, vi p3, vi p4, vi p5, vi x5, vi x6, vi x7, vi x8, vi x9, vu, vu, vr a12, vu]) rfl k) ?_
  show DoneW p e below s _ _ _ (T.setTop (mkF m 1088 #[vi p1, vi p2, vi p3, vi p4, vi p5, vi x5, vi x6, vi x7, vi x8, vi x9, vu, vu, vr a12, vu] []))
  refine DoneW.step (fun t k => XS.iloadN X0.here hx rfl (hb hby at_1088) rfl k) ?_
  show DoneW p e below s _ _ _ (T.setTop (mkF m 1089 #[vi p1, vi p2, vi p3, vi p4, vi p5, vi x5, vi x6, vi x7, vi x8, vi x9, vu, vu, vr a12, vu] [(.int p1)]))
  refine DoneW.step (fun t k => XS.iconst X0.here hx rfl (hb hby at_1089) k) ?_
  show DoneW p e below s _ _ _ (T.setTop (mkF m 1090 #[vi p1, vi p2, vi p3, vi p4, vi p5, vi x5, vi x6, vi x7, vi x8, vi x9, vu, vu, vr a12, vu] [(.int 3), (.int p1)]))
  refine DoneW.step (fun t k => XS.iushr X0.here hx rfl (hb hby at_1090) rfl k) ?_
  show DoneW p e below s _ _ _ (T.setTop (mkF m 1091 #[vi p1, vi p2, vi p3, vi p4, vi p5, vi x5, vi x6, vi x7, vi x8, vi x9, vu, vu, vr a12, vu] [(.int ((p1.toUInt32 >>> ((3 : Int32) &&& 31).toUInt32).toInt32))]))
  refine DoneW.step (fun t k => XS.bipush X0.here hx rfl (hb hby at_1091) k) ?_
  show DoneW p e below s _ _ _ (T.setTop (mkF m 1093 #[vi p1, vi p2, vi p3, vi p4, vi p5, vi x5, vi x6, vi x7, vi x8, vi x9, vu, vu, vr a12, vu] [(.int 65), (.int ((p1.toUInt32 >>> ((3 : Int32) &&& 31).toUInt32).toInt32))]))
  refine DoneW.step (fun t k => iremM X0 hx rfl (hb hby at_1093) rfl (by decide) k) ?_
  show DoneW p e below s _ _ _ (T.setTop (mkF m 1094 #[vi p1, vi p2, vi p3, vi p4, vi p5, vi x5, vi x6, vi x7, vi x8, vi x9, vu, vu, vr a12, vu] [(.int (((p1.toUInt32 >>> ((3 : Int32) &&& 31).toUInt32).toInt32) % (65 : Int32)))]))
  generalize dx101 : (((p1.toUInt32 >>> ((3 : Int32) &&& 31).toUInt32).toInt32) % (65 : Int32)) = x101
  show DoneW p e below s _ _ _ (T.setTop (mkF m 1094 #[vi p1, vi p2, vi p3, vi p4, vi p5, vi x5, vi x6, vi x7, vi x8, vi x9, vu, vu, vr a12, vu] [(.int x101)]))
  refine DoneW.step (fun t k => XS.istore X0.here hx rfl (hb hby at_1094) rfl (l' := #[vi p1, vi p2, vi p3, vi p4, vi p5, vi x5, vi x6, vi x7, vi x8, vi x9, vu, vu, vr a12, vi x101]) rfl k) ?_
  show DoneW p e below s _ _ _ (T.setTop (mkF m 1096 #[vi p1, vi p2, vi p3, vi p4, vi p5, vi x5, vi x6, vi x7, vi x8, vi x9, vu, vu, vr a12, vi x101] []))
  obtain ⟨pp, hpp, hpl⟩ := own_pp 65 dx101 (by rfl) (by decide)
  refine DoneW.step (fun t k => XS.aload X0.here hx rfl (hb hby at_1096) rfl rfl k) ?_
  show DoneW p e below s _ _ _ (T.setTop (mkF m 1098 #[vi p1, vi p2, vi p3, vi p4, vi p5, vi x5, vi x6, vi x7, vi x8, vi x9, vu, vu, vr a12, vi x101] [(.ref a12)]))
  refine DoneW.step (fun t k => XS.iconst X0.here hx rfl (hb hby at_1098) k) ?_
  show DoneW p e below s _ _ _ (T.setTop (mkF m 1099 #[vi p1, vi p2, vi p3, vi p4, vi p5, vi x5, vi x6, vi x7, vi x8, vi x9, vu, vu, vr a12, vi x101] [(.int 0), (.ref a12)]))
  refine DoneW.step (fun t k => XS.iload X0.here hx rfl (hb hby at_1099) rfl k) ?_
  show DoneW p e below s _ _ _ (T.setTop (mkF m 1101 #[vi p1, vi p2, vi p3, vi p4, vi p5, vi x5, vi x6, vi x7, vi x8, vi x9, vu, vu, vr a12, vi x101] [(.int x5), (.int 0), (.ref a12)]))
  obtain ⟨T102, h102, X102, e102, W102, A102, st102⟩ := stoC X0 hx hZ e0 A12 (j := (0 : Int32)) (by decide) (i := 0) (by decide) (by simp only [List.length_map, List.length_set, RR.len (Nat.le_refl _)]; decide) (g := (mkF m 1101 #[vi p1, vi p2, vi p3, vi p4, vi p5, vi x5, vi x6, vi x7, vi x8, vi x9, vu, vu, vr a12, vi x101] [(.int x5), (.int 0), (.ref a12)])) rfl rfl (hb hby at_1101)
  have f103 : Ax Z h102 a12 .char (((RR 65 65 x8).set 0 x5).map Value.int) := (by have q := A102; rw [hc5, ← List.map_set] at q; exact q)
  have f104 := E12.wr W102
  have f105 := Scs.wr W102
  have f106 := Ssx.wr W102
  have f107 := Sad.wr W102
  have f108 := Shi.wr W102
  have f109 := Slo.wr W102
  have Z102 := Nat.le_trans Z0 (Keep.of_wr W102).1
  have N102 := Fr.snoc X102 N0 g12
  refine DoneW.step st102 ?_
  show DoneW p e below s _ _ _ (T102.setTop (mkF m 1102 #[vi p1, vi p2, vi p3, vi p4, vi p5, vi x5, vi x6, vi x7, vi x8, vi x9, vu, vu, vr a12, vi x101] []))
  refine DoneW.step (fun t k => XS.aload X102.here hx rfl (hb hby at_1102) rfl rfl k) ?_
  show DoneW p e below s _ _ _ (T102.setTop (mkF m 1104 #[vi p1, vi p2, vi p3, vi p4, vi p5, vi x5, vi x6, vi x7, vi x8, vi x9, vu, vu, vr a12, vi x101] [(.ref a12)]))
  refine DoneW.step (fun t k => XS.iload X102.here hx rfl (hb hby at_1104) rfl k) ?_
  show DoneW p e below s _ _ _ (T102.setTop (mkF m 1106 #[vi p1, vi p2, vi p3, vi p4, vi p5, vi x5, vi x6, vi x7, vi x8, vi x9, vu, vu, vr a12, vi x101] [(.int x101), (.ref a12)]))
  refine DoneW.step (fun t k => XS.iload X102.here hx rfl (hb hby at_1106) rfl k) ?_
  show DoneW p e below s _ _ _ (T102.setTop (mkF m 1108 #[vi p1, vi p2, vi p3, vi p4, vi p5, vi x5, vi x6, vi x7, vi x8, vi x9, vu, vu, vr a12, vi x101] [(.int x6), (.int x101), (.ref a12)]))
  obtain ⟨T110, h110, X110, e110, W110, A110, st110⟩ := stoC X102 hx hZ e102 f103 (j := x101) (own_nneg hpp) (i := pp) (own_cl hpp) (by simp only [List.length_map, List.length_set, RR.len (Nat.le_refl _)]; exact hpl) (g := (mkF m 1108 #[vi p1, vi p2, vi p3, vi p4, vi p5, vi x5, vi x6, vi x7, vi x8, vi x9, vu, vu, vr a12, vi x101] [(.int x6), (.int x101), (.ref a12)])) rfl rfl (hb hby at_1108)
  have f111 : Ax Z h110 a12 .char ((((RR 65 65 x8).set 0 x5).set pp x6).map Value.int) := (by have q := A110; rw [hc6, ← List.map_set] at q; exact q)
  have f112 := f104.wr W110
  have f113 := f105.wr W110
  have f114 := f106.wr W110
  have f115 := f107.wr W110
  have f116 := f108.wr W110
  have f117 := f109.wr W110
  have Z110 := Nat.le_trans Z102 (Keep.of_wr W110).1
  have N110 := Fr.snoc X110 N102 g12
  refine DoneW.step st110 ?_
  show DoneW p e below s _ _ _ (T110.setTop (mkF m 1109 #[vi p1, vi p2, vi p3, vi p4, vi p5, vi x5, vi x6, vi x7, vi x8, vi x9, vu, vu, vr a12, vi x101] []))
  refine DoneW.step (fun t k => XS.aload X110.here hx rfl (hb hby at_1109) rfl rfl k) ?_
  show DoneW p e below s _ _ _ (T110.setTop (mkF m 1111 #[vi p1, vi p2, vi p3, vi p4, vi p5, vi x5, vi x6, vi x7, vi x8, vi x9, vu, vu, vr a12, vi x101] [(.ref a12)]))
  refine DoneW.step (fun t k => XS.bipush X110.here hx rfl (hb hby at_1111) k) ?_
  show DoneW p e below s _ _ _ (T110.setTop (mkF m 1113 #[vi p1, vi p2, vi p3, vi p4, vi p5, vi x5, vi x6, vi x7, vi x8, vi x9, vu, vu, vr a12, vi x101] [(.int 64), (.ref a12)]))
  refine DoneW.step (fun t k => XS.iload X110.here hx rfl (hb hby at_1113) rfl k) ?_
  show DoneW p e below s _ _ _ (T110.setTop (mkF m 1115 #[vi p1, vi p2, vi p3, vi p4, vi p5, vi x5, vi x6, vi x7, vi x8, vi x9, vu, vu, vr a12, vi x101] [(.int x7), (.int 64), (.ref a12)]))
  obtain ⟨T118, h118, X118, e118, W118, A118, st118⟩ := stoC X110 hx hZ e110 f111 (j := (64 : Int32)) (by decide) (i := 64) (by decide) (by simp only [List.length_map, List.length_set, RR.len (Nat.le_refl _)]; decide) (g := (mkF m 1115 #[vi p1, vi p2, vi p3, vi p4, vi p5, vi x5, vi x6, vi x7, vi x8, vi x9, vu, vu, vr a12, vi x101] [(.int x7), (.int 64), (.ref a12)])) rfl rfl (hb hby at_1115)
  have f119 : Ax Z h118 a12 .char (((((RR 65 65 x8).set 0 x5).set pp x6).set 64 x7).map Value.int) := (by have q := A118; rw [hc7, ← List.map_set] at q; exact q)
  have f120 := f112.wr W118
  have f121 := f113.wr W118
  have f122 := f114.wr W118
  have f123 := f115.wr W118
  have f124 := f116.wr W118
  have f125 := f117.wr W118
  have Z118 := Nat.le_trans Z110 (Keep.of_wr W118).1
  have N118 := Fr.snoc X118 N110 g12
  refine DoneW.step st118 ?_
  show DoneW p e below s _ _ _ (T118.setTop (mkF m 1116 #[vi p1, vi p2, vi p3, vi p4, vi p5, vi x5, vi x6, vi x7, vi x8, vi x9, vu, vu, vr a12, vi x101] []))
  have g126 : Ax Z h118 a12 .char ((TT 65 pp x8 x5 x6 x7).map Value.int) := by have q := f119; exact q
  obtain ⟨T127, h127, X127, e127, E127, A127, D127, -, st127⟩ := newO X118 hx hZ hown (tw21 hw) (tw4 hw) (tw3 hw) e118 (g := (mkF m 1116 #[vi p1, vi p2, vi p3, vi p4, vi p5, vi x5, vi x6, vi x7, vi x8, vi x9, vu, vu, vr a12, vi x101] [])) rfl (hb hby at_1116) (by decide) (by decide)
  obtain ⟨b127, gq127⟩ : ∃ z, z = h118.size := ⟨_, rfl⟩
  rw [← gq127] at A127 D127 st127
  have ne128 := Nat.ne_of_lt (Nat.lt_of_lt_of_le g126.lt (Nat.le_of_eq gq127.symm))
  have f129 := g126.ext E127
  have f130 := f120.ext E127
  have f131 := f121.ext E127
  have f132 := f122.ext E127
  have f133 := f123.ext E127
  have f134 := f124.ext E127
  have f135 := f125.ext E127
  have g_b127 := Nat.le_trans Z118 (Nat.le_of_eq gq127.symm)
  have Z127 := Nat.le_trans Z118 E127.1
  have f136 : Fl1 Z h127 b127 .null := D127 (Or.inr (tw6 hw)) (ty := (.array .byte)) (by decide)
  have f137 : Fl0 Z h127 b127 (.int 0) := D127 (Or.inr (tw7 hw)) (ty := .byte) (by decide)
  refine DoneW.step st127 ?_
  show DoneW p e below s _ _ _ (T127.setTop (mkF m 1119 #[vi p1, vi p2, vi p3, vi p4, vi p5, vi x5, vi x6, vi x7, vi x8, vi x9, vu, vu, vr a12, vi x101] [(.ref b127)]))
  refine DoneW.step (fun t k => XS.dup X127.here hx rfl (hb hby at_1119) rfl rfl k) ?_
  show DoneW p e below s _ _ _ (T127.setTop (mkF m 1120 #[vi p1, vi p2, vi p3, vi p4, vi p5, vi x5, vi x6, vi x7, vi x8, vi x9, vu, vu, vr a12, vi x101] [(.ref b127), (.ref b127)]))
  refine DoneW.step (fun t k => XS.aload X127.here hx rfl (hb hby at_1120) rfl rfl k) ?_
  show DoneW p e below s _ _ _ (T127.setTop (mkF m 1122 #[vi p1, vi p2, vi p3, vi p4, vi p5, vi x5, vi x6, vi x7, vi x8, vi x9, vu, vu, vr a12, vi x101] [(.ref a12), (.ref b127), (.ref b127)]))
  obtain ⟨v138, _, ⟨T138, L138, k138, n138⟩, -, X138, ⟨Lc138, hQ138, l138, y138, z138⟩, st138⟩ := X127.specialBack hx (y := (⟨"java/lang/String", "<init>", "([C)V"⟩ : MethodName)) rfl hown (mvT hZ (tw22 hw)) (mvT hZ (tw23 hw)) (mvT hZ (tw24 hw)) (by decide) (backOf (W := 1) (rm3 l Z a0 hw [] b127 a12 (TT 65 pp x8 x5 x6 x7) cs (65 : Int32) h127 n0 Z127 A127 f136 f137 g_b127 f130 f129 f131 f133 f134 f135 hcs (by rw [TT.len]; rfl) (by rw [TT.len]; decide) (by rw [TT.len]; decide) (TT.ch hr8 hr5 hr6 hr7) ne128) hZ (tw24 hw) (tw3 hw) (by decide) (by decide)) (g := (mkF m 1122 #[vi p1, vi p2, vi p3, vi p4, vi p5, vi x5, vi x6, vi x7, vi x8, vi x9, vu, vu, vr a12, vi x101] [(.ref a12), (.ref b127), (.ref b127)])) rfl (by rw [hml]; rfl) (Steps.refl _) (a := b127) (argsL := [(.ref a12)]) (rest := [(.ref b127)]) (lenOf pd_18 rfl) rfl (by show 2 * 0 + _ ≤ _; exact Nat.le_of_eq rfl) (hb hby at_1122) (fun _ _ => ⟨rfl, e127, (by decide : 2 + 2 ≤ _), (by decide : 69 + 195 ≤ _)⟩)
  dsimp only [Pt.U, Pt.locs, Pt.cells, Pt.slots] at X138 l138 y138 z138 st138 hQ138
  subst l138 y138 z138
  refine DoneW.far st138 ?_
  obtain ⟨rfl, N138q, K138q, xE138, vb138, kk138, vs138, mI138, nI138, xF138, xG138, xA138, hD138⟩ := hQ138
  have N138 := Fr.app N118 N138q
  have f139 := f129.keep K138q (ninS ne128 nin0)
  have f140 := f130.keep K138q
  have f141 := own_stakeep f131 K138q (allS (own_unst A127) all0)
  have f142 := own_stakeep f132 K138q (allS (own_unst A127) all0)
  have f143 := own_stakeep f133 K138q (allS (own_unst A127) all0)
  have f144 := own_stakeep f134 K138q (allS (own_unst A127) all0)
  have f145 := own_stakeep f135 K138q (allS (own_unst A127) all0)
  have f146 := A127.keep K138q
  have Zk138 := Nat.le_trans Z127 K138q.1
  show DoneW p e below s _ _ _ (T138.setTop (mkF m 1125 #[vi p1, vi p2, vi p3, vi p4, vi p5, vi x5, vi x6, vi x7, vi x8, vi x9, vu, vu, vr a12, vi x101] [(.ref b127)]))
  refine DoneW.step (fun t k => XS.astore X138.here hx rfl (hb hby at_1125) rfl rfl (l' := #[vi p1, vi p2, vi p3, vi p4, vi p5, vi x5, vi x6, vi x7, vi x8, vi x9, vr b127, vu, vr a12, vi x101]) rfl k) ?_
  show DoneW p e below s _ _ _ (T138.setTop (mkF m 1127 #[vi p1, vi p2, vi p3, vi p4, vi p5, vi x5, vi x6, vi x7, vi x8, vi x9, vr b127, vu, vr a12, vi x101] []))
  refine DoneW.step (fun t k => XS.iconst X138.here hx rfl (hb hby at_1127) k) ?_
  show DoneW p e below s _ _ _ (T138.setTop (mkF m 1128 #[vi p1, vi p2, vi p3, vi p4, vi p5, vi x5, vi x6, vi x7, vi x8, vi x9, vr b127, vu, vr a12, vi x101] [(.int 0)]))
  refine DoneW.step (fun t k => XS.istore X138.here hx rfl (hb hby at_1128) rfl (l' := #[vi p1, vi p2, vi p3, vi p4, vi p5, vi x5, vi x6, vi x7, vi x8, vi x9, vr b127, vi 0, vr a12, vi x101]) rfl k) ?_
  show DoneW p e below s _ _ _ (T138.setTop (mkF m 1130 #[vi p1, vi p2, vi p3, vi p4, vi p5, vi x5, vi x6, vi x7, vi x8, vi x9, vr b127, vi 0, vr a12, vi x101] []))
  exact blk1130 p1 p2 p3 p4 p5 x5 x6 x7 x8 x9 b127 (0 : Int32) (vr a12 : Slot) (vi x101 : Slot) vb138 kk138 vs138 mI138 nI138 cs sv (TT 65 pp x8 x5 x6 x7) (X138.mono (by decide) (by decide)) hx hZ hw hby hml hown hlk hret hnm N138 Zk138 rfl f146 xF138 xG138 xA138 hD138 f141 f142 hsv f143 f144 f145 hcs (own_mz hD138 (by rw [TT.len]; decide)) (own_in65 hD138.2.2.2.1 (TT.len _ _ _ _ _ _))
set_option maxRecDepth 65536 in
set_option maxHeartbeats 40000000 in
theorem fill1080 {p : Program} {l : Launch} {e : Env} {s : State} {m : MethodId} {args : Array Value} {below : List Frame} {meth : Method} {c : Code} {T : State} {locs : List Loc} {Z : State} {a0 : Array Value} {h0 : Heap} {n0 : Nat} (p1 p2 p3 p4 p5 x5 x6 x7 x8 x9 : Int32) (a12 : Addr) (cs : Int32) (sv : Value)
    (X0 : Stand p l e room_1 s m args below meth c T locs 1 65) (hx : p.tables.exec = Jvm.exec) (hZ : Z.Warmed39 s.vm) (hw : HH a0 Z) (hby : c.code = code) (hml : c.maxLocals = 14) (hown : s.vm.findClass "com/example/stowage/stowage/model/NamesIsNamePinLaw" = some m.cls) (hlk : meth.locks = false) (hret : meth.sig.returnType = ret) (hnm : meth.name = "law") (N0 : Fr n0 locs) (Z0 : n0 ≤ h0.size) (e0 : T.heap = h0) (A12 : Ax Z h0 a12 .char ((RR 65 64 x8).map Value.int)) (E12 : Fl4 Z h0 a12) (g12 : n0 ≤ a12) (Scs : Sta Z h0 "java/lang/String" "COMPACT_STRINGS" "Z" (.int cs)) (Ssx : Sta Z h0 "jdk/internal/util/Preconditions" "SIOOBE_FORMATTER" "Ljava/util/function/BiFunction;" sv) (hsv : sv.isRef = true) (Sad : Sta Z h0 "java/lang/StringUTF16" "$assertionsDisabled" "Z" (.int 1)) (Shi : Sta Z h0 "java/lang/StringUTF16" "HI_BYTE_SHIFT" "I" (.int 0)) (Slo : Sta Z h0 "java/lang/StringUTF16" "LO_BYTE_SHIFT" "I" (.int 8)) (hcs : ¬ cs = (0 : Int32)) (hr5 : 0 ≤ x5.toInt ∧ x5.toInt < 65536) (hr6 : 0 ≤ x6.toInt ∧ x6.toInt < 65536) (hr7 : 0 ≤ x7.toInt ∧ x7.toInt < 65536) (hr8 : 0 ≤ x8.toInt ∧ x8.toInt < 65536) (hc5 : nar .char x5 = x5) (hc6 : nar .char x6 = x6) (hc7 : nar .char x7 = x7) (hc8 : nar .char x8 = x8) :
    DoneW p e below s (fun v h L => v = some (.int 1) ∧ Fr n0 L) room_1.cells room_1.slots (T.setTop (mkF m 1080 #[vi p1, vi p2, vi p3, vi p4, vi p5, vi x5, vi x6, vi x7, vi x8, vi x9, vu, vu, vu, vu] [(.ref a12)])) := by
  show DoneW p e below s _ _ _ (T.setTop (mkF m 1080 #[vi p1, vi p2, vi p3, vi p4, vi p5, vi x5, vi x6, vi x7, vi x8, vi x9, vu, vu, vu, vu] [(.ref a12)]))
  refine DoneW.step (fun t k => XS.dup X0.here hx rfl (hb hby at_1080) rfl rfl k) ?_
  show DoneW p e below s _ _ _ (T.setTop (mkF m 1081 #[vi p1, vi p2, vi p3, vi p4, vi p5, vi x5, vi x6, vi x7, vi x8, vi x9, vu, vu, vu, vu] [(.ref a12), (.ref a12)]))
  refine DoneW.step (fun t k => XS.bipush X0.here hx rfl (hb hby at_1081) k) ?_
  show DoneW p e below s _ _ _ (T.setTop (mkF m 1083 #[vi p1, vi p2, vi p3, vi p4, vi p5, vi x5, vi x6, vi x7, vi x8, vi x9, vu, vu, vu, vu] [(.int 64), (.ref a12), (.ref a12)]))
  refine DoneW.step (fun t k => XS.iload X0.here hx rfl (hb hby at_1083) rfl k) ?_
  show DoneW p e below s _ _ _ (T.setTop (mkF m 1085 #[vi p1, vi p2, vi p3, vi p4, vi p5, vi x5, vi x6, vi x7, vi x8, vi x9, vu, vu, vu, vu] [(.int x8), (.int 64), (.ref a12), (.ref a12)]))
  obtain ⟨T101, h101, X101, e101, W101, A101, st101⟩ := stoC X0 hx hZ e0 A12 (j := (64 : Int32)) (by decide) (i := 64) (by decide) (by rw [List.length_map, RR.len (by decide)]; decide) (g := (mkF m 1085 #[vi p1, vi p2, vi p3, vi p4, vi p5, vi x5, vi x6, vi x7, vi x8, vi x9, vu, vu, vu, vu] [(.int x8), (.int 64), (.ref a12), (.ref a12)])) rfl rfl (hb hby at_1085)
  have f102 : Ax Z h101 a12 .char ((RR 65 65 x8).map Value.int) := (by have q := A101; rw [own_rr (by decide) hc8] at q; exact q)
  have f103 := E12.wr W101
  have f104 := Scs.wr W101
  have f105 := Ssx.wr W101
  have f106 := Sad.wr W101
  have f107 := Shi.wr W101
  have f108 := Slo.wr W101
  have Z101 := Nat.le_trans Z0 (Keep.of_wr W101).1
  have N101 := Fr.snoc X101 N0 g12
  refine DoneW.step st101 ?_
  show DoneW p e below s _ _ _ (T101.setTop (mkF m 1086 #[vi p1, vi p2, vi p3, vi p4, vi p5, vi x5, vi x6, vi x7, vi x8, vi x9, vu, vu, vu, vu] [(.ref a12)]))
  exact fill1086 p1 p2 p3 p4 p5 x5 x6 x7 x8 x9 a12 cs sv X101 hx hZ hw hby hml hown hlk hret hnm N101 Z101 e101 f102 f103 g12 f104 f105 hsv f106 f107 f108 hcs hr5 hr6 hr7 hr8 hc5 hc6 hc7 hc8
set_option maxRecDepth 65536 in
set_option maxHeartbeats 40000000 in
theorem fill1032 {p : Program} {l : Launch} {e : Env} {s : State} {m : MethodId} {args : Array Value} {below : List Frame} {meth : Method} {c : Code} {T : State} {locs : List Loc} {Z : State} {a0 : Array Value} {h0 : Heap} {n0 : Nat} (p1 p2 p3 p4 p5 x5 x6 x7 x8 x9 : Int32) (a12 : Addr) (cs : Int32) (sv : Value)
    (X0 : Stand p l e room_1 s m args below meth c T locs 1 65) (hx : p.tables.exec = Jvm.exec) (hZ : Z.Warmed39 s.vm) (hw : HH a0 Z) (hby : c.code = code) (hml : c.maxLocals = 14) (hown : s.vm.findClass "com/example/stowage/stowage/model/NamesIsNamePinLaw" = some m.cls) (hlk : meth.locks = false) (hret : meth.sig.returnType = ret) (hnm : meth.name = "law") (N0 : Fr n0 locs) (Z0 : n0 ≤ h0.size) (e0 : T.heap = h0) (A12 : Ax Z h0 a12 .char ((RR 65 56 x8).map Value.int)) (E12 : Fl4 Z h0 a12) (g12 : n0 ≤ a12) (Scs : Sta Z h0 "java/lang/String" "COMPACT_STRINGS" "Z" (.int cs)) (Ssx : Sta Z h0 "jdk/internal/util/Preconditions" "SIOOBE_FORMATTER" "Ljava/util/function/BiFunction;" sv) (hsv : sv.isRef = true) (Sad : Sta Z h0 "java/lang/StringUTF16" "$assertionsDisabled" "Z" (.int 1)) (Shi : Sta Z h0 "java/lang/StringUTF16" "HI_BYTE_SHIFT" "I" (.int 0)) (Slo : Sta Z h0 "java/lang/StringUTF16" "LO_BYTE_SHIFT" "I" (.int 8)) (hcs : ¬ cs = (0 : Int32)) (hr5 : 0 ≤ x5.toInt ∧ x5.toInt < 65536) (hr6 : 0 ≤ x6.toInt ∧ x6.toInt < 65536) (hr7 : 0 ≤ x7.toInt ∧ x7.toInt < 65536) (hr8 : 0 ≤ x8.toInt ∧ x8.toInt < 65536) (hc5 : nar .char x5 = x5) (hc6 : nar .char x6 = x6) (hc7 : nar .char x7 = x7) (hc8 : nar .char x8 = x8) :
    DoneW p e below s (fun v h L => v = some (.int 1) ∧ Fr n0 L) room_1.cells room_1.slots (T.setTop (mkF m 1032 #[vi p1, vi p2, vi p3, vi p4, vi p5, vi x5, vi x6, vi x7, vi x8, vi x9, vu, vu, vu, vu] [(.ref a12)])) := by
  show DoneW p e below s _ _ _ (T.setTop (mkF m 1032 #[vi p1, vi p2, vi p3, vi p4, vi p5, vi x5, vi x6, vi x7, vi x8, vi x9, vu, vu, vu, vu] [(.ref a12)]))
  refine DoneW.step (fun t k => XS.dup X0.here hx rfl (hb hby at_1032) rfl rfl k) ?_
  show DoneW p e below s _ _ _ (T.setTop (mkF m 1033 #[vi p1, vi p2, vi p3, vi p4, vi p5, vi x5, vi x6, vi x7, vi x8, vi x9, vu, vu, vu, vu] [(.ref a12), (.ref a12)]))
  refine DoneW.step (fun t k => XS.bipush X0.here hx rfl (hb hby at_1033) k) ?_
  show DoneW p e below s _ _ _ (T.setTop (mkF m 1035 #[vi p1, vi p2, vi p3, vi p4, vi p5, vi x5, vi x6, vi x7, vi x8, vi x9, vu, vu, vu, vu] [(.int 56), (.ref a12), (.ref a12)]))
  refine DoneW.step (fun t k => XS.iload X0.here hx rfl (hb hby at_1035) rfl k) ?_
  show DoneW p e below s _ _ _ (T.setTop (mkF m 1037 #[vi p1, vi p2, vi p3, vi p4, vi p5, vi x5, vi x6, vi x7, vi x8, vi x9, vu, vu, vu, vu] [(.int x8), (.int 56), (.ref a12), (.ref a12)]))
  obtain ⟨T101, h101, X101, e101, W101, A101, st101⟩ := stoC X0 hx hZ e0 A12 (j := (56 : Int32)) (by decide) (i := 56) (by decide) (by rw [List.length_map, RR.len (by decide)]; decide) (g := (mkF m 1037 #[vi p1, vi p2, vi p3, vi p4, vi p5, vi x5, vi x6, vi x7, vi x8, vi x9, vu, vu, vu, vu] [(.int x8), (.int 56), (.ref a12), (.ref a12)])) rfl rfl (hb hby at_1037)
  have f102 : Ax Z h101 a12 .char ((RR 65 57 x8).map Value.int) := (by have q := A101; rw [own_rr (by decide) hc8] at q; exact q)
  have f103 := E12.wr W101
  have f104 := Scs.wr W101
  have f105 := Ssx.wr W101
  have f106 := Sad.wr W101
  have f107 := Shi.wr W101
  have f108 := Slo.wr W101
  have Z101 := Nat.le_trans Z0 (Keep.of_wr W101).1
  have N101 := Fr.snoc X101 N0 g12
  refine DoneW.step st101 ?_
  show DoneW p e below s _ _ _ (T101.setTop (mkF m 1038 #[vi p1, vi p2, vi p3, vi p4, vi p5, vi x5, vi x6, vi x7, vi x8, vi x9, vu, vu, vu, vu] [(.ref a12)]))
  refine DoneW.step (fun t k => XS.dup X101.here hx rfl (hb hby at_1038) rfl rfl k) ?_
  show DoneW p e below s _ _ _ (T101.setTop (mkF m 1039 #[vi p1, vi p2, vi p3, vi p4, vi p5, vi x5, vi x6, vi x7, vi x8, vi x9, vu, vu, vu, vu] [(.ref a12), (.ref a12)]))
  refine DoneW.step (fun t k => XS.bipush X101.here hx rfl (hb hby at_1039) k) ?_
  show DoneW p e below s _ _ _ (T101.setTop (mkF m 1041 #[vi p1, vi p2, vi p3, vi p4, vi p5, vi x5, vi x6, vi x7, vi x8, vi x9, vu, vu, vu, vu] [(.int 57), (.ref a12), (.ref a12)]))
  refine DoneW.step (fun t k => XS.iload X101.here hx rfl (hb hby at_1041) rfl k) ?_
  show DoneW p e below s _ _ _ (T101.setTop (mkF m 1043 #[vi p1, vi p2, vi p3, vi p4, vi p5, vi x5, vi x6, vi x7, vi x8, vi x9, vu, vu, vu, vu] [(.int x8), (.int 57), (.ref a12), (.ref a12)]))
  obtain ⟨T109, h109, X109, e109, W109, A109, st109⟩ := stoC X101 hx hZ e101 f102 (j := (57 : Int32)) (by decide) (i := 57) (by decide) (by rw [List.length_map, RR.len (by decide)]; decide) (g := (mkF m 1043 #[vi p1, vi p2, vi p3, vi p4, vi p5, vi x5, vi x6, vi x7, vi x8, vi x9, vu, vu, vu, vu] [(.int x8), (.int 57), (.ref a12), (.ref a12)])) rfl rfl (hb hby at_1043)
  have f110 : Ax Z h109 a12 .char ((RR 65 58 x8).map Value.int) := (by have q := A109; rw [own_rr (by decide) hc8] at q; exact q)
  have f111 := f103.wr W109
  have f112 := f104.wr W109
  have f113 := f105.wr W109
  have f114 := f106.wr W109
  have f115 := f107.wr W109
  have f116 := f108.wr W109
  have Z109 := Nat.le_trans Z101 (Keep.of_wr W109).1
  have N109 := Fr.snoc X109 N101 g12
  refine DoneW.step st109 ?_
  show DoneW p e below s _ _ _ (T109.setTop (mkF m 1044 #[vi p1, vi p2, vi p3, vi p4, vi p5, vi x5, vi x6, vi x7, vi x8, vi x9, vu, vu, vu, vu] [(.ref a12)]))
  refine DoneW.step (fun t k => XS.dup X109.here hx rfl (hb hby at_1044) rfl rfl k) ?_
  show DoneW p e below s _ _ _ (T109.setTop (mkF m 1045 #[vi p1, vi p2, vi p3, vi p4, vi p5, vi x5, vi x6, vi x7, vi x8, vi x9, vu, vu, vu, vu] [(.ref a12), (.ref a12)]))
  refine DoneW.step (fun t k => XS.bipush X109.here hx rfl (hb hby at_1045) k) ?_
  show DoneW p e below s _ _ _ (T109.setTop (mkF m 1047 #[vi p1, vi p2, vi p3, vi p4, vi p5, vi x5, vi x6, vi x7, vi x8, vi x9, vu, vu, vu, vu] [(.int 58), (.ref a12), (.ref a12)]))
  refine DoneW.step (fun t k => XS.iload X109.here hx rfl (hb hby at_1047) rfl k) ?_
  show DoneW p e below s _ _ _ (T109.setTop (mkF m 1049 #[vi p1, vi p2, vi p3, vi p4, vi p5, vi x5, vi x6, vi x7, vi x8, vi x9, vu, vu, vu, vu] [(.int x8), (.int 58), (.ref a12), (.ref a12)]))
  obtain ⟨T117, h117, X117, e117, W117, A117, st117⟩ := stoC X109 hx hZ e109 f110 (j := (58 : Int32)) (by decide) (i := 58) (by decide) (by rw [List.length_map, RR.len (by decide)]; decide) (g := (mkF m 1049 #[vi p1, vi p2, vi p3, vi p4, vi p5, vi x5, vi x6, vi x7, vi x8, vi x9, vu, vu, vu, vu] [(.int x8), (.int 58), (.ref a12), (.ref a12)])) rfl rfl (hb hby at_1049)
  have f118 : Ax Z h117 a12 .char ((RR 65 59 x8).map Value.int) := (by have q := A117; rw [own_rr (by decide) hc8] at q; exact q)
  have f119 := f111.wr W117
  have f120 := f112.wr W117
  have f121 := f113.wr W117
  have f122 := f114.wr W117
  have f123 := f115.wr W117
  have f124 := f116.wr W117
  have Z117 := Nat.le_trans Z109 (Keep.of_wr W117).1
  have N117 := Fr.snoc X117 N109 g12
  refine DoneW.step st117 ?_
  show DoneW p e below s _ _ _ (T117.setTop (mkF m 1050 #[vi p1, vi p2, vi p3, vi p4, vi p5, vi x5, vi x6, vi x7, vi x8, vi x9, vu, vu, vu, vu] [(.ref a12)]))
  refine DoneW.step (fun t k => XS.dup X117.here hx rfl (hb hby at_1050) rfl rfl k) ?_
  show DoneW p e below s _ _ _ (T117.setTop (mkF m 1051 #[vi p1, vi p2, vi p3, vi p4, vi p5, vi x5, vi x6, vi x7, vi x8, vi x9, vu, vu, vu, vu] [(.ref a12), (.ref a12)]))
  refine DoneW.step (fun t k => XS.bipush X117.here hx rfl (hb hby at_1051) k) ?_
  show DoneW p e below s _ _ _ (T117.setTop (mkF m 1053 #[vi p1, vi p2, vi p3, vi p4, vi p5, vi x5, vi x6, vi x7, vi x8, vi x9, vu, vu, vu, vu] [(.int 59), (.ref a12), (.ref a12)]))
  refine DoneW.step (fun t k => XS.iload X117.here hx rfl (hb hby at_1053) rfl k) ?_
  show DoneW p e below s _ _ _ (T117.setTop (mkF m 1055 #[vi p1, vi p2, vi p3, vi p4, vi p5, vi x5, vi x6, vi x7, vi x8, vi x9, vu, vu, vu, vu] [(.int x8), (.int 59), (.ref a12), (.ref a12)]))
  obtain ⟨T125, h125, X125, e125, W125, A125, st125⟩ := stoC X117 hx hZ e117 f118 (j := (59 : Int32)) (by decide) (i := 59) (by decide) (by rw [List.length_map, RR.len (by decide)]; decide) (g := (mkF m 1055 #[vi p1, vi p2, vi p3, vi p4, vi p5, vi x5, vi x6, vi x7, vi x8, vi x9, vu, vu, vu, vu] [(.int x8), (.int 59), (.ref a12), (.ref a12)])) rfl rfl (hb hby at_1055)
  have f126 : Ax Z h125 a12 .char ((RR 65 60 x8).map Value.int) := (by have q := A125; rw [own_rr (by decide) hc8] at q; exact q)
  have f127 := f119.wr W125
  have f128 := f120.wr W125
  have f129 := f121.wr W125
  have f130 := f122.wr W125
  have f131 := f123.wr W125
  have f132 := f124.wr W125
  have Z125 := Nat.le_trans Z117 (Keep.of_wr W125).1
  have N125 := Fr.snoc X125 N117 g12
  refine DoneW.step st125 ?_
  show DoneW p e below s _ _ _ (T125.setTop (mkF m 1056 #[vi p1, vi p2, vi p3, vi p4, vi p5, vi x5, vi x6, vi x7, vi x8, vi x9, vu, vu, vu, vu] [(.ref a12)]))
  refine DoneW.step (fun t k => XS.dup X125.here hx rfl (hb hby at_1056) rfl rfl k) ?_
  show DoneW p e below s _ _ _ (T125.setTop (mkF m 1057 #[vi p1, vi p2, vi p3, vi p4, vi p5, vi x5, vi x6, vi x7, vi x8, vi x9, vu, vu, vu, vu] [(.ref a12), (.ref a12)]))
  refine DoneW.step (fun t k => XS.bipush X125.here hx rfl (hb hby at_1057) k) ?_
  show DoneW p e below s _ _ _ (T125.setTop (mkF m 1059 #[vi p1, vi p2, vi p3, vi p4, vi p5, vi x5, vi x6, vi x7, vi x8, vi x9, vu, vu, vu, vu] [(.int 60), (.ref a12), (.ref a12)]))
  refine DoneW.step (fun t k => XS.iload X125.here hx rfl (hb hby at_1059) rfl k) ?_
  show DoneW p e below s _ _ _ (T125.setTop (mkF m 1061 #[vi p1, vi p2, vi p3, vi p4, vi p5, vi x5, vi x6, vi x7, vi x8, vi x9, vu, vu, vu, vu] [(.int x8), (.int 60), (.ref a12), (.ref a12)]))
  obtain ⟨T133, h133, X133, e133, W133, A133, st133⟩ := stoC X125 hx hZ e125 f126 (j := (60 : Int32)) (by decide) (i := 60) (by decide) (by rw [List.length_map, RR.len (by decide)]; decide) (g := (mkF m 1061 #[vi p1, vi p2, vi p3, vi p4, vi p5, vi x5, vi x6, vi x7, vi x8, vi x9, vu, vu, vu, vu] [(.int x8), (.int 60), (.ref a12), (.ref a12)])) rfl rfl (hb hby at_1061)
  have f134 : Ax Z h133 a12 .char ((RR 65 61 x8).map Value.int) := (by have q := A133; rw [own_rr (by decide) hc8] at q; exact q)
  have f135 := f127.wr W133
  have f136 := f128.wr W133
  have f137 := f129.wr W133
  have f138 := f130.wr W133
  have f139 := f131.wr W133
  have f140 := f132.wr W133
  have Z133 := Nat.le_trans Z125 (Keep.of_wr W133).1
  have N133 := Fr.snoc X133 N125 g12
  refine DoneW.step st133 ?_
  show DoneW p e below s _ _ _ (T133.setTop (mkF m 1062 #[vi p1, vi p2, vi p3, vi p4, vi p5, vi x5, vi x6, vi x7, vi x8, vi x9, vu, vu, vu, vu] [(.ref a12)]))
  refine DoneW.step (fun t k => XS.dup X133.here hx rfl (hb hby at_1062) rfl rfl k) ?_
  show DoneW p e below s _ _ _ (T133.setTop (mkF m 1063 #[vi p1, vi p2, vi p3, vi p4, vi p5, vi x5, vi x6, vi x7, vi x8, vi x9, vu, vu, vu, vu] [(.ref a12), (.ref a12)]))
  refine DoneW.step (fun t k => XS.bipush X133.here hx rfl (hb hby at_1063) k) ?_
  show DoneW p e below s _ _ _ (T133.setTop (mkF m 1065 #[vi p1, vi p2, vi p3, vi p4, vi p5, vi x5, vi x6, vi x7, vi x8, vi x9, vu, vu, vu, vu] [(.int 61), (.ref a12), (.ref a12)]))
  refine DoneW.step (fun t k => XS.iload X133.here hx rfl (hb hby at_1065) rfl k) ?_
  show DoneW p e below s _ _ _ (T133.setTop (mkF m 1067 #[vi p1, vi p2, vi p3, vi p4, vi p5, vi x5, vi x6, vi x7, vi x8, vi x9, vu, vu, vu, vu] [(.int x8), (.int 61), (.ref a12), (.ref a12)]))
  obtain ⟨T141, h141, X141, e141, W141, A141, st141⟩ := stoC X133 hx hZ e133 f134 (j := (61 : Int32)) (by decide) (i := 61) (by decide) (by rw [List.length_map, RR.len (by decide)]; decide) (g := (mkF m 1067 #[vi p1, vi p2, vi p3, vi p4, vi p5, vi x5, vi x6, vi x7, vi x8, vi x9, vu, vu, vu, vu] [(.int x8), (.int 61), (.ref a12), (.ref a12)])) rfl rfl (hb hby at_1067)
  have f142 : Ax Z h141 a12 .char ((RR 65 62 x8).map Value.int) := (by have q := A141; rw [own_rr (by decide) hc8] at q; exact q)
  have f143 := f135.wr W141
  have f144 := f136.wr W141
  have f145 := f137.wr W141
  have f146 := f138.wr W141
  have f147 := f139.wr W141
  have f148 := f140.wr W141
  have Z141 := Nat.le_trans Z133 (Keep.of_wr W141).1
  have N141 := Fr.snoc X141 N133 g12
  refine DoneW.step st141 ?_
  show DoneW p e below s _ _ _ (T141.setTop (mkF m 1068 #[vi p1, vi p2, vi p3, vi p4, vi p5, vi x5, vi x6, vi x7, vi x8, vi x9, vu, vu, vu, vu] [(.ref a12)]))
  refine DoneW.step (fun t k => XS.dup X141.here hx rfl (hb hby at_1068) rfl rfl k) ?_
  show DoneW p e below s _ _ _ (T141.setTop (mkF m 1069 #[vi p1, vi p2, vi p3, vi p4, vi p5, vi x5, vi x6, vi x7, vi x8, vi x9, vu, vu, vu, vu] [(.ref a12), (.ref a12)]))
  refine DoneW.step (fun t k => XS.bipush X141.here hx rfl (hb hby at_1069) k) ?_
  show DoneW p e below s _ _ _ (T141.setTop (mkF m 1071 #[vi p1, vi p2, vi p3, vi p4, vi p5, vi x5, vi x6, vi x7, vi x8, vi x9, vu, vu, vu, vu] [(.int 62), (.ref a12), (.ref a12)]))
  refine DoneW.step (fun t k => XS.iload X141.here hx rfl (hb hby at_1071) rfl k) ?_
  show DoneW p e below s _ _ _ (T141.setTop (mkF m 1073 #[vi p1, vi p2, vi p3, vi p4, vi p5, vi x5, vi x6, vi x7, vi x8, vi x9, vu, vu, vu, vu] [(.int x8), (.int 62), (.ref a12), (.ref a12)]))
  obtain ⟨T149, h149, X149, e149, W149, A149, st149⟩ := stoC X141 hx hZ e141 f142 (j := (62 : Int32)) (by decide) (i := 62) (by decide) (by rw [List.length_map, RR.len (by decide)]; decide) (g := (mkF m 1073 #[vi p1, vi p2, vi p3, vi p4, vi p5, vi x5, vi x6, vi x7, vi x8, vi x9, vu, vu, vu, vu] [(.int x8), (.int 62), (.ref a12), (.ref a12)])) rfl rfl (hb hby at_1073)
  have f150 : Ax Z h149 a12 .char ((RR 65 63 x8).map Value.int) := (by have q := A149; rw [own_rr (by decide) hc8] at q; exact q)
  have f151 := f143.wr W149
  have f152 := f144.wr W149
  have f153 := f145.wr W149
  have f154 := f146.wr W149
  have f155 := f147.wr W149
  have f156 := f148.wr W149
  have Z149 := Nat.le_trans Z141 (Keep.of_wr W149).1
  have N149 := Fr.snoc X149 N141 g12
  refine DoneW.step st149 ?_
  show DoneW p e below s _ _ _ (T149.setTop (mkF m 1074 #[vi p1, vi p2, vi p3, vi p4, vi p5, vi x5, vi x6, vi x7, vi x8, vi x9, vu, vu, vu, vu] [(.ref a12)]))
  refine DoneW.step (fun t k => XS.dup X149.here hx rfl (hb hby at_1074) rfl rfl k) ?_
  show DoneW p e below s _ _ _ (T149.setTop (mkF m 1075 #[vi p1, vi p2, vi p3, vi p4, vi p5, vi x5, vi x6, vi x7, vi x8, vi x9, vu, vu, vu, vu] [(.ref a12), (.ref a12)]))
  refine DoneW.step (fun t k => XS.bipush X149.here hx rfl (hb hby at_1075) k) ?_
  show DoneW p e below s _ _ _ (T149.setTop (mkF m 1077 #[vi p1, vi p2, vi p3, vi p4, vi p5, vi x5, vi x6, vi x7, vi x8, vi x9, vu, vu, vu, vu] [(.int 63), (.ref a12), (.ref a12)]))
  refine DoneW.step (fun t k => XS.iload X149.here hx rfl (hb hby at_1077) rfl k) ?_
  show DoneW p e below s _ _ _ (T149.setTop (mkF m 1079 #[vi p1, vi p2, vi p3, vi p4, vi p5, vi x5, vi x6, vi x7, vi x8, vi x9, vu, vu, vu, vu] [(.int x8), (.int 63), (.ref a12), (.ref a12)]))
  obtain ⟨T157, h157, X157, e157, W157, A157, st157⟩ := stoC X149 hx hZ e149 f150 (j := (63 : Int32)) (by decide) (i := 63) (by decide) (by rw [List.length_map, RR.len (by decide)]; decide) (g := (mkF m 1079 #[vi p1, vi p2, vi p3, vi p4, vi p5, vi x5, vi x6, vi x7, vi x8, vi x9, vu, vu, vu, vu] [(.int x8), (.int 63), (.ref a12), (.ref a12)])) rfl rfl (hb hby at_1079)
  have f158 : Ax Z h157 a12 .char ((RR 65 64 x8).map Value.int) := (by have q := A157; rw [own_rr (by decide) hc8] at q; exact q)
  have f159 := f151.wr W157
  have f160 := f152.wr W157
  have f161 := f153.wr W157
  have f162 := f154.wr W157
  have f163 := f155.wr W157
  have f164 := f156.wr W157
  have Z157 := Nat.le_trans Z149 (Keep.of_wr W157).1
  have N157 := Fr.snoc X157 N149 g12
  refine DoneW.step st157 ?_
  show DoneW p e below s _ _ _ (T157.setTop (mkF m 1080 #[vi p1, vi p2, vi p3, vi p4, vi p5, vi x5, vi x6, vi x7, vi x8, vi x9, vu, vu, vu, vu] [(.ref a12)]))
  exact fill1080 p1 p2 p3 p4 p5 x5 x6 x7 x8 x9 a12 cs sv X157 hx hZ hw hby hml hown hlk hret hnm N157 Z157 e157 f158 f159 g12 f160 f161 hsv f162 f163 f164 hcs hr5 hr6 hr7 hr8 hc5 hc6 hc7 hc8
set_option maxRecDepth 65536 in
set_option maxHeartbeats 40000000 in
theorem fill984 {p : Program} {l : Launch} {e : Env} {s : State} {m : MethodId} {args : Array Value} {below : List Frame} {meth : Method} {c : Code} {T : State} {locs : List Loc} {Z : State} {a0 : Array Value} {h0 : Heap} {n0 : Nat} (p1 p2 p3 p4 p5 x5 x6 x7 x8 x9 : Int32) (a12 : Addr) (cs : Int32) (sv : Value)
    (X0 : Stand p l e room_1 s m args below meth c T locs 1 65) (hx : p.tables.exec = Jvm.exec) (hZ : Z.Warmed39 s.vm) (hw : HH a0 Z) (hby : c.code = code) (hml : c.maxLocals = 14) (hown : s.vm.findClass "com/example/stowage/stowage/model/NamesIsNamePinLaw" = some m.cls) (hlk : meth.locks = false) (hret : meth.sig.returnType = ret) (hnm : meth.name = "law") (N0 : Fr n0 locs) (Z0 : n0 ≤ h0.size) (e0 : T.heap = h0) (A12 : Ax Z h0 a12 .char ((RR 65 48 x8).map Value.int)) (E12 : Fl4 Z h0 a12) (g12 : n0 ≤ a12) (Scs : Sta Z h0 "java/lang/String" "COMPACT_STRINGS" "Z" (.int cs)) (Ssx : Sta Z h0 "jdk/internal/util/Preconditions" "SIOOBE_FORMATTER" "Ljava/util/function/BiFunction;" sv) (hsv : sv.isRef = true) (Sad : Sta Z h0 "java/lang/StringUTF16" "$assertionsDisabled" "Z" (.int 1)) (Shi : Sta Z h0 "java/lang/StringUTF16" "HI_BYTE_SHIFT" "I" (.int 0)) (Slo : Sta Z h0 "java/lang/StringUTF16" "LO_BYTE_SHIFT" "I" (.int 8)) (hcs : ¬ cs = (0 : Int32)) (hr5 : 0 ≤ x5.toInt ∧ x5.toInt < 65536) (hr6 : 0 ≤ x6.toInt ∧ x6.toInt < 65536) (hr7 : 0 ≤ x7.toInt ∧ x7.toInt < 65536) (hr8 : 0 ≤ x8.toInt ∧ x8.toInt < 65536) (hc5 : nar .char x5 = x5) (hc6 : nar .char x6 = x6) (hc7 : nar .char x7 = x7) (hc8 : nar .char x8 = x8) :
    DoneW p e below s (fun v h L => v = some (.int 1) ∧ Fr n0 L) room_1.cells room_1.slots (T.setTop (mkF m 984 #[vi p1, vi p2, vi p3, vi p4, vi p5, vi x5, vi x6, vi x7, vi x8, vi x9, vu, vu, vu, vu] [(.ref a12)])) := by
  show DoneW p e below s _ _ _ (T.setTop (mkF m 984 #[vi p1, vi p2, vi p3, vi p4, vi p5, vi x5, vi x6, vi x7, vi x8, vi x9, vu, vu, vu, vu] [(.ref a12)]))
  refine DoneW.step (fun t k => XS.dup X0.here hx rfl (hb hby at_984) rfl rfl k) ?_
  show DoneW p e below s _ _ _ (T.setTop (mkF m 985 #[vi p1, vi p2, vi p3, vi p4, vi p5, vi x5, vi x6, vi x7, vi x8, vi x9, vu, vu, vu, vu] [(.ref a12), (.ref a12)]))
  refine DoneW.step (fun t k => XS.bipush X0.here hx rfl (hb hby at_985) k) ?_
  show DoneW p e below s _ _ _ (T.setTop (mkF m 987 #[vi p1, vi p2, vi p3, vi p4, vi p5, vi x5, vi x6, vi x7, vi x8, vi x9, vu, vu, vu, vu] [(.int 48), (.ref a12), (.ref a12)]))
  refine DoneW.step (fun t k => XS.iload X0.here hx rfl (hb hby at_987) rfl k) ?_
  show DoneW p e below s _ _ _ (T.setTop (mkF m 989 #[vi p1, vi p2, vi p3, vi p4, vi p5, vi x5, vi x6, vi x7, vi x8, vi x9, vu, vu, vu, vu] [(.int x8), (.int 48), (.ref a12), (.ref a12)]))
  obtain ⟨T101, h101, X101, e101, W101, A101, st101⟩ := stoC X0 hx hZ e0 A12 (j := (48 : Int32)) (by decide) (i := 48) (by decide) (by rw [List.length_map, RR.len (by decide)]; decide) (g := (mkF m 989 #[vi p1, vi p2, vi p3, vi p4, vi p5, vi x5, vi x6, vi x7, vi x8, vi x9, vu, vu, vu, vu] [(.int x8), (.int 48), (.ref a12), (.ref a12)])) rfl rfl (hb hby at_989)
  have f102 : Ax Z h101 a12 .char ((RR 65 49 x8).map Value.int) := (by have q := A101; rw [own_rr (by decide) hc8] at q; exact q)
  have f103 := E12.wr W101
  have f104 := Scs.wr W101
  have f105 := Ssx.wr W101
  have f106 := Sad.wr W101
  have f107 := Shi.wr W101
  have f108 := Slo.wr W101
  have Z101 := Nat.le_trans Z0 (Keep.of_wr W101).1
  have N101 := Fr.snoc X101 N0 g12
  refine DoneW.step st101 ?_
  show DoneW p e below s _ _ _ (T101.setTop (mkF m 990 #[vi p1, vi p2, vi p3, vi p4, vi p5, vi x5, vi x6, vi x7, vi x8, vi x9, vu, vu, vu, vu] [(.ref a12)]))
  refine DoneW.step (fun t k => XS.dup X101.here hx rfl (hb hby at_990) rfl rfl k) ?_
  show DoneW p e below s _ _ _ (T101.setTop (mkF m 991 #[vi p1, vi p2, vi p3, vi p4, vi p5, vi x5, vi x6, vi x7, vi x8, vi x9, vu, vu, vu, vu] [(.ref a12), (.ref a12)]))
  refine DoneW.step (fun t k => XS.bipush X101.here hx rfl (hb hby at_991) k) ?_
  show DoneW p e below s _ _ _ (T101.setTop (mkF m 993 #[vi p1, vi p2, vi p3, vi p4, vi p5, vi x5, vi x6, vi x7, vi x8, vi x9, vu, vu, vu, vu] [(.int 49), (.ref a12), (.ref a12)]))
  refine DoneW.step (fun t k => XS.iload X101.here hx rfl (hb hby at_993) rfl k) ?_
  show DoneW p e below s _ _ _ (T101.setTop (mkF m 995 #[vi p1, vi p2, vi p3, vi p4, vi p5, vi x5, vi x6, vi x7, vi x8, vi x9, vu, vu, vu, vu] [(.int x8), (.int 49), (.ref a12), (.ref a12)]))
  obtain ⟨T109, h109, X109, e109, W109, A109, st109⟩ := stoC X101 hx hZ e101 f102 (j := (49 : Int32)) (by decide) (i := 49) (by decide) (by rw [List.length_map, RR.len (by decide)]; decide) (g := (mkF m 995 #[vi p1, vi p2, vi p3, vi p4, vi p5, vi x5, vi x6, vi x7, vi x8, vi x9, vu, vu, vu, vu] [(.int x8), (.int 49), (.ref a12), (.ref a12)])) rfl rfl (hb hby at_995)
  have f110 : Ax Z h109 a12 .char ((RR 65 50 x8).map Value.int) := (by have q := A109; rw [own_rr (by decide) hc8] at q; exact q)
  have f111 := f103.wr W109
  have f112 := f104.wr W109
  have f113 := f105.wr W109
  have f114 := f106.wr W109
  have f115 := f107.wr W109
  have f116 := f108.wr W109
  have Z109 := Nat.le_trans Z101 (Keep.of_wr W109).1
  have N109 := Fr.snoc X109 N101 g12
  refine DoneW.step st109 ?_
  show DoneW p e below s _ _ _ (T109.setTop (mkF m 996 #[vi p1, vi p2, vi p3, vi p4, vi p5, vi x5, vi x6, vi x7, vi x8, vi x9, vu, vu, vu, vu] [(.ref a12)]))
  refine DoneW.step (fun t k => XS.dup X109.here hx rfl (hb hby at_996) rfl rfl k) ?_
  show DoneW p e below s _ _ _ (T109.setTop (mkF m 997 #[vi p1, vi p2, vi p3, vi p4, vi p5, vi x5, vi x6, vi x7, vi x8, vi x9, vu, vu, vu, vu] [(.ref a12), (.ref a12)]))
  refine DoneW.step (fun t k => XS.bipush X109.here hx rfl (hb hby at_997) k) ?_
  show DoneW p e below s _ _ _ (T109.setTop (mkF m 999 #[vi p1, vi p2, vi p3, vi p4, vi p5, vi x5, vi x6, vi x7, vi x8, vi x9, vu, vu, vu, vu] [(.int 50), (.ref a12), (.ref a12)]))
  refine DoneW.step (fun t k => XS.iload X109.here hx rfl (hb hby at_999) rfl k) ?_
  show DoneW p e below s _ _ _ (T109.setTop (mkF m 1001 #[vi p1, vi p2, vi p3, vi p4, vi p5, vi x5, vi x6, vi x7, vi x8, vi x9, vu, vu, vu, vu] [(.int x8), (.int 50), (.ref a12), (.ref a12)]))
  obtain ⟨T117, h117, X117, e117, W117, A117, st117⟩ := stoC X109 hx hZ e109 f110 (j := (50 : Int32)) (by decide) (i := 50) (by decide) (by rw [List.length_map, RR.len (by decide)]; decide) (g := (mkF m 1001 #[vi p1, vi p2, vi p3, vi p4, vi p5, vi x5, vi x6, vi x7, vi x8, vi x9, vu, vu, vu, vu] [(.int x8), (.int 50), (.ref a12), (.ref a12)])) rfl rfl (hb hby at_1001)
  have f118 : Ax Z h117 a12 .char ((RR 65 51 x8).map Value.int) := (by have q := A117; rw [own_rr (by decide) hc8] at q; exact q)
  have f119 := f111.wr W117
  have f120 := f112.wr W117
  have f121 := f113.wr W117
  have f122 := f114.wr W117
  have f123 := f115.wr W117
  have f124 := f116.wr W117
  have Z117 := Nat.le_trans Z109 (Keep.of_wr W117).1
  have N117 := Fr.snoc X117 N109 g12
  refine DoneW.step st117 ?_
  show DoneW p e below s _ _ _ (T117.setTop (mkF m 1002 #[vi p1, vi p2, vi p3, vi p4, vi p5, vi x5, vi x6, vi x7, vi x8, vi x9, vu, vu, vu, vu] [(.ref a12)]))
  refine DoneW.step (fun t k => XS.dup X117.here hx rfl (hb hby at_1002) rfl rfl k) ?_
  show DoneW p e below s _ _ _ (T117.setTop (mkF m 1003 #[vi p1, vi p2, vi p3, vi p4, vi p5, vi x5, vi x6, vi x7, vi x8, vi x9, vu, vu, vu, vu] [(.ref a12), (.ref a12)]))
  refine DoneW.step (fun t k => XS.bipush X117.here hx rfl (hb hby at_1003) k) ?_
  show DoneW p e below s _ _ _ (T117.setTop (mkF m 1005 #[vi p1, vi p2, vi p3, vi p4, vi p5, vi x5, vi x6, vi x7, vi x8, vi x9, vu, vu, vu, vu] [(.int 51), (.ref a12), (.ref a12)]))
  refine DoneW.step (fun t k => XS.iload X117.here hx rfl (hb hby at_1005) rfl k) ?_
  show DoneW p e below s _ _ _ (T117.setTop (mkF m 1007 #[vi p1, vi p2, vi p3, vi p4, vi p5, vi x5, vi x6, vi x7, vi x8, vi x9, vu, vu, vu, vu] [(.int x8), (.int 51), (.ref a12), (.ref a12)]))
  obtain ⟨T125, h125, X125, e125, W125, A125, st125⟩ := stoC X117 hx hZ e117 f118 (j := (51 : Int32)) (by decide) (i := 51) (by decide) (by rw [List.length_map, RR.len (by decide)]; decide) (g := (mkF m 1007 #[vi p1, vi p2, vi p3, vi p4, vi p5, vi x5, vi x6, vi x7, vi x8, vi x9, vu, vu, vu, vu] [(.int x8), (.int 51), (.ref a12), (.ref a12)])) rfl rfl (hb hby at_1007)
  have f126 : Ax Z h125 a12 .char ((RR 65 52 x8).map Value.int) := (by have q := A125; rw [own_rr (by decide) hc8] at q; exact q)
  have f127 := f119.wr W125
  have f128 := f120.wr W125
  have f129 := f121.wr W125
  have f130 := f122.wr W125
  have f131 := f123.wr W125
  have f132 := f124.wr W125
  have Z125 := Nat.le_trans Z117 (Keep.of_wr W125).1
  have N125 := Fr.snoc X125 N117 g12
  refine DoneW.step st125 ?_
  show DoneW p e below s _ _ _ (T125.setTop (mkF m 1008 #[vi p1, vi p2, vi p3, vi p4, vi p5, vi x5, vi x6, vi x7, vi x8, vi x9, vu, vu, vu, vu] [(.ref a12)]))
  refine DoneW.step (fun t k => XS.dup X125.here hx rfl (hb hby at_1008) rfl rfl k) ?_
  show DoneW p e below s _ _ _ (T125.setTop (mkF m 1009 #[vi p1, vi p2, vi p3, vi p4, vi p5, vi x5, vi x6, vi x7, vi x8, vi x9, vu, vu, vu, vu] [(.ref a12), (.ref a12)]))
  refine DoneW.step (fun t k => XS.bipush X125.here hx rfl (hb hby at_1009) k) ?_
  show DoneW p e below s _ _ _ (T125.setTop (mkF m 1011 #[vi p1, vi p2, vi p3, vi p4, vi p5, vi x5, vi x6, vi x7, vi x8, vi x9, vu, vu, vu, vu] [(.int 52), (.ref a12), (.ref a12)]))
  refine DoneW.step (fun t k => XS.iload X125.here hx rfl (hb hby at_1011) rfl k) ?_
  show DoneW p e below s _ _ _ (T125.setTop (mkF m 1013 #[vi p1, vi p2, vi p3, vi p4, vi p5, vi x5, vi x6, vi x7, vi x8, vi x9, vu, vu, vu, vu] [(.int x8), (.int 52), (.ref a12), (.ref a12)]))
  obtain ⟨T133, h133, X133, e133, W133, A133, st133⟩ := stoC X125 hx hZ e125 f126 (j := (52 : Int32)) (by decide) (i := 52) (by decide) (by rw [List.length_map, RR.len (by decide)]; decide) (g := (mkF m 1013 #[vi p1, vi p2, vi p3, vi p4, vi p5, vi x5, vi x6, vi x7, vi x8, vi x9, vu, vu, vu, vu] [(.int x8), (.int 52), (.ref a12), (.ref a12)])) rfl rfl (hb hby at_1013)
  have f134 : Ax Z h133 a12 .char ((RR 65 53 x8).map Value.int) := (by have q := A133; rw [own_rr (by decide) hc8] at q; exact q)
  have f135 := f127.wr W133
  have f136 := f128.wr W133
  have f137 := f129.wr W133
  have f138 := f130.wr W133
  have f139 := f131.wr W133
  have f140 := f132.wr W133
  have Z133 := Nat.le_trans Z125 (Keep.of_wr W133).1
  have N133 := Fr.snoc X133 N125 g12
  refine DoneW.step st133 ?_
  show DoneW p e below s _ _ _ (T133.setTop (mkF m 1014 #[vi p1, vi p2, vi p3, vi p4, vi p5, vi x5, vi x6, vi x7, vi x8, vi x9, vu, vu, vu, vu] [(.ref a12)]))
  refine DoneW.step (fun t k => XS.dup X133.here hx rfl (hb hby at_1014) rfl rfl k) ?_
  show DoneW p e below s _ _ _ (T133.setTop (mkF m 1015 #[vi p1, vi p2, vi p3, vi p4, vi p5, vi x5, vi x6, vi x7, vi x8, vi x9, vu, vu, vu, vu] [(.ref a12), (.ref a12)]))
  refine DoneW.step (fun t k => XS.bipush X133.here hx rfl (hb hby at_1015) k) ?_
  show DoneW p e below s _ _ _ (T133.setTop (mkF m 1017 #[vi p1, vi p2, vi p3, vi p4, vi p5, vi x5, vi x6, vi x7, vi x8, vi x9, vu, vu, vu, vu] [(.int 53), (.ref a12), (.ref a12)]))
  refine DoneW.step (fun t k => XS.iload X133.here hx rfl (hb hby at_1017) rfl k) ?_
  show DoneW p e below s _ _ _ (T133.setTop (mkF m 1019 #[vi p1, vi p2, vi p3, vi p4, vi p5, vi x5, vi x6, vi x7, vi x8, vi x9, vu, vu, vu, vu] [(.int x8), (.int 53), (.ref a12), (.ref a12)]))
  obtain ⟨T141, h141, X141, e141, W141, A141, st141⟩ := stoC X133 hx hZ e133 f134 (j := (53 : Int32)) (by decide) (i := 53) (by decide) (by rw [List.length_map, RR.len (by decide)]; decide) (g := (mkF m 1019 #[vi p1, vi p2, vi p3, vi p4, vi p5, vi x5, vi x6, vi x7, vi x8, vi x9, vu, vu, vu, vu] [(.int x8), (.int 53), (.ref a12), (.ref a12)])) rfl rfl (hb hby at_1019)
  have f142 : Ax Z h141 a12 .char ((RR 65 54 x8).map Value.int) := (by have q := A141; rw [own_rr (by decide) hc8] at q; exact q)
  have f143 := f135.wr W141
  have f144 := f136.wr W141
  have f145 := f137.wr W141
  have f146 := f138.wr W141
  have f147 := f139.wr W141
  have f148 := f140.wr W141
  have Z141 := Nat.le_trans Z133 (Keep.of_wr W141).1
  have N141 := Fr.snoc X141 N133 g12
  refine DoneW.step st141 ?_
  show DoneW p e below s _ _ _ (T141.setTop (mkF m 1020 #[vi p1, vi p2, vi p3, vi p4, vi p5, vi x5, vi x6, vi x7, vi x8, vi x9, vu, vu, vu, vu] [(.ref a12)]))
  refine DoneW.step (fun t k => XS.dup X141.here hx rfl (hb hby at_1020) rfl rfl k) ?_
  show DoneW p e below s _ _ _ (T141.setTop (mkF m 1021 #[vi p1, vi p2, vi p3, vi p4, vi p5, vi x5, vi x6, vi x7, vi x8, vi x9, vu, vu, vu, vu] [(.ref a12), (.ref a12)]))
  refine DoneW.step (fun t k => XS.bipush X141.here hx rfl (hb hby at_1021) k) ?_
  show DoneW p e below s _ _ _ (T141.setTop (mkF m 1023 #[vi p1, vi p2, vi p3, vi p4, vi p5, vi x5, vi x6, vi x7, vi x8, vi x9, vu, vu, vu, vu] [(.int 54), (.ref a12), (.ref a12)]))
  refine DoneW.step (fun t k => XS.iload X141.here hx rfl (hb hby at_1023) rfl k) ?_
  show DoneW p e below s _ _ _ (T141.setTop (mkF m 1025 #[vi p1, vi p2, vi p3, vi p4, vi p5, vi x5, vi x6, vi x7, vi x8, vi x9, vu, vu, vu, vu] [(.int x8), (.int 54), (.ref a12), (.ref a12)]))
  obtain ⟨T149, h149, X149, e149, W149, A149, st149⟩ := stoC X141 hx hZ e141 f142 (j := (54 : Int32)) (by decide) (i := 54) (by decide) (by rw [List.length_map, RR.len (by decide)]; decide) (g := (mkF m 1025 #[vi p1, vi p2, vi p3, vi p4, vi p5, vi x5, vi x6, vi x7, vi x8, vi x9, vu, vu, vu, vu] [(.int x8), (.int 54), (.ref a12), (.ref a12)])) rfl rfl (hb hby at_1025)
  have f150 : Ax Z h149 a12 .char ((RR 65 55 x8).map Value.int) := (by have q := A149; rw [own_rr (by decide) hc8] at q; exact q)
  have f151 := f143.wr W149
  have f152 := f144.wr W149
  have f153 := f145.wr W149
  have f154 := f146.wr W149
  have f155 := f147.wr W149
  have f156 := f148.wr W149
  have Z149 := Nat.le_trans Z141 (Keep.of_wr W149).1
  have N149 := Fr.snoc X149 N141 g12
  refine DoneW.step st149 ?_
  show DoneW p e below s _ _ _ (T149.setTop (mkF m 1026 #[vi p1, vi p2, vi p3, vi p4, vi p5, vi x5, vi x6, vi x7, vi x8, vi x9, vu, vu, vu, vu] [(.ref a12)]))
  refine DoneW.step (fun t k => XS.dup X149.here hx rfl (hb hby at_1026) rfl rfl k) ?_
  show DoneW p e below s _ _ _ (T149.setTop (mkF m 1027 #[vi p1, vi p2, vi p3, vi p4, vi p5, vi x5, vi x6, vi x7, vi x8, vi x9, vu, vu, vu, vu] [(.ref a12), (.ref a12)]))
  refine DoneW.step (fun t k => XS.bipush X149.here hx rfl (hb hby at_1027) k) ?_
  show DoneW p e below s _ _ _ (T149.setTop (mkF m 1029 #[vi p1, vi p2, vi p3, vi p4, vi p5, vi x5, vi x6, vi x7, vi x8, vi x9, vu, vu, vu, vu] [(.int 55), (.ref a12), (.ref a12)]))
  refine DoneW.step (fun t k => XS.iload X149.here hx rfl (hb hby at_1029) rfl k) ?_
  show DoneW p e below s _ _ _ (T149.setTop (mkF m 1031 #[vi p1, vi p2, vi p3, vi p4, vi p5, vi x5, vi x6, vi x7, vi x8, vi x9, vu, vu, vu, vu] [(.int x8), (.int 55), (.ref a12), (.ref a12)]))
  obtain ⟨T157, h157, X157, e157, W157, A157, st157⟩ := stoC X149 hx hZ e149 f150 (j := (55 : Int32)) (by decide) (i := 55) (by decide) (by rw [List.length_map, RR.len (by decide)]; decide) (g := (mkF m 1031 #[vi p1, vi p2, vi p3, vi p4, vi p5, vi x5, vi x6, vi x7, vi x8, vi x9, vu, vu, vu, vu] [(.int x8), (.int 55), (.ref a12), (.ref a12)])) rfl rfl (hb hby at_1031)
  have f158 : Ax Z h157 a12 .char ((RR 65 56 x8).map Value.int) := (by have q := A157; rw [own_rr (by decide) hc8] at q; exact q)
  have f159 := f151.wr W157
  have f160 := f152.wr W157
  have f161 := f153.wr W157
  have f162 := f154.wr W157
  have f163 := f155.wr W157
  have f164 := f156.wr W157
  have Z157 := Nat.le_trans Z149 (Keep.of_wr W157).1
  have N157 := Fr.snoc X157 N149 g12
  refine DoneW.step st157 ?_
  show DoneW p e below s _ _ _ (T157.setTop (mkF m 1032 #[vi p1, vi p2, vi p3, vi p4, vi p5, vi x5, vi x6, vi x7, vi x8, vi x9, vu, vu, vu, vu] [(.ref a12)]))
  exact fill1032 p1 p2 p3 p4 p5 x5 x6 x7 x8 x9 a12 cs sv X157 hx hZ hw hby hml hown hlk hret hnm N157 Z157 e157 f158 f159 g12 f160 f161 hsv f162 f163 f164 hcs hr5 hr6 hr7 hr8 hc5 hc6 hc7 hc8
set_option maxRecDepth 65536 in
set_option maxHeartbeats 40000000 in
theorem fill936 {p : Program} {l : Launch} {e : Env} {s : State} {m : MethodId} {args : Array Value} {below : List Frame} {meth : Method} {c : Code} {T : State} {locs : List Loc} {Z : State} {a0 : Array Value} {h0 : Heap} {n0 : Nat} (p1 p2 p3 p4 p5 x5 x6 x7 x8 x9 : Int32) (a12 : Addr) (cs : Int32) (sv : Value)
    (X0 : Stand p l e room_1 s m args below meth c T locs 1 65) (hx : p.tables.exec = Jvm.exec) (hZ : Z.Warmed39 s.vm) (hw : HH a0 Z) (hby : c.code = code) (hml : c.maxLocals = 14) (hown : s.vm.findClass "com/example/stowage/stowage/model/NamesIsNamePinLaw" = some m.cls) (hlk : meth.locks = false) (hret : meth.sig.returnType = ret) (hnm : meth.name = "law") (N0 : Fr n0 locs) (Z0 : n0 ≤ h0.size) (e0 : T.heap = h0) (A12 : Ax Z h0 a12 .char ((RR 65 40 x8).map Value.int)) (E12 : Fl4 Z h0 a12) (g12 : n0 ≤ a12) (Scs : Sta Z h0 "java/lang/String" "COMPACT_STRINGS" "Z" (.int cs)) (Ssx : Sta Z h0 "jdk/internal/util/Preconditions" "SIOOBE_FORMATTER" "Ljava/util/function/BiFunction;" sv) (hsv : sv.isRef = true) (Sad : Sta Z h0 "java/lang/StringUTF16" "$assertionsDisabled" "Z" (.int 1)) (Shi : Sta Z h0 "java/lang/StringUTF16" "HI_BYTE_SHIFT" "I" (.int 0)) (Slo : Sta Z h0 "java/lang/StringUTF16" "LO_BYTE_SHIFT" "I" (.int 8)) (hcs : ¬ cs = (0 : Int32)) (hr5 : 0 ≤ x5.toInt ∧ x5.toInt < 65536) (hr6 : 0 ≤ x6.toInt ∧ x6.toInt < 65536) (hr7 : 0 ≤ x7.toInt ∧ x7.toInt < 65536) (hr8 : 0 ≤ x8.toInt ∧ x8.toInt < 65536) (hc5 : nar .char x5 = x5) (hc6 : nar .char x6 = x6) (hc7 : nar .char x7 = x7) (hc8 : nar .char x8 = x8) :
    DoneW p e below s (fun v h L => v = some (.int 1) ∧ Fr n0 L) room_1.cells room_1.slots (T.setTop (mkF m 936 #[vi p1, vi p2, vi p3, vi p4, vi p5, vi x5, vi x6, vi x7, vi x8, vi x9, vu, vu, vu, vu] [(.ref a12)])) := by
  show DoneW p e below s _ _ _ (T.setTop (mkF m 936 #[vi p1, vi p2, vi p3, vi p4, vi p5, vi x5, vi x6, vi x7, vi x8, vi x9, vu, vu, vu, vu] [(.ref a12)]))
  refine DoneW.step (fun t k => XS.dup X0.here hx rfl (hb hby at_936) rfl rfl k) ?_
  show DoneW p e below s _ _ _ (T.setTop (mkF m 937 #[vi p1, vi p2, vi p3, vi p4, vi p5, vi x5, vi x6, vi x7, vi x8, vi x9, vu, vu, vu, vu] [(.ref a12), (.ref a12)]))
  refine DoneW.step (fun t k => XS.bipush X0.here hx rfl (hb hby at_937) k) ?_
  show DoneW p e below s _ _ _ (T.setTop (mkF m 939 #[vi p1, vi p2, vi p3, vi p4, vi p5, vi x5, vi x6, vi x7, vi x8, vi x9, vu, vu, vu, vu] [(.int 40), (.ref a12), (.ref a12)]))
  refine DoneW.step (fun t k => XS.iload X0.here hx rfl (hb hby at_939) rfl k) ?_
  show DoneW p e below s _ _ _ (T.setTop (mkF m 941 #[vi p1, vi p2, vi p3, vi p4, vi p5, vi x5, vi x6, vi x7, vi x8, vi x9, vu, vu, vu, vu] [(.int x8), (.int 40), (.ref a12), (.ref a12)]))
  obtain ⟨T101, h101, X101, e101, W101, A101, st101⟩ := stoC X0 hx hZ e0 A12 (j := (40 : Int32)) (by decide) (i := 40) (by decide) (by rw [List.length_map, RR.len (by decide)]; decide) (g := (mkF m 941 #[vi p1, vi p2, vi p3, vi p4, vi p5, vi x5, vi x6, vi x7, vi x8, vi x9, vu, vu, vu, vu] [(.int x8), (.int 40), (.ref a12), (.ref a12)])) rfl rfl (hb hby at_941)
  have f102 : Ax Z h101 a12 .char ((RR 65 41 x8).map Value.int) := (by have q := A101; rw [own_rr (by decide) hc8] at q; exact q)
  have f103 := E12.wr W101
  have f104 := Scs.wr W101
  have f105 := Ssx.wr W101
  have f106 := Sad.wr W101
  have f107 := Shi.wr W101
  have f108 := Slo.wr W101
  have Z101 := Nat.le_trans Z0 (Keep.of_wr W101).1
  have N101 := Fr.snoc X101 N0 g12
  refine DoneW.step st101 ?_
  show DoneW p e below s _ _ _ (T101.setTop (mkF m 942 #[vi p1, vi p2, vi p3, vi p4, vi p5, vi x5, vi x6, vi x7, vi x8, vi x9, vu, vu, vu, vu] [(.ref a12)]))
  refine DoneW.step (fun t k => XS.dup X101.here hx rfl (hb hby at_942) rfl rfl k) ?_
  show DoneW p e below s _ _ _ (T101.setTop (mkF m 943 #[vi p1, vi p2, vi p3, vi p4, vi p5, vi x5, vi x6, vi x7, vi x8, vi x9, vu, vu, vu, vu] [(.ref a12), (.ref a12)]))
  refine DoneW.step (fun t k => XS.bipush X101.here hx rfl (hb hby at_943) k) ?_
  show DoneW p e below s _ _ _ (T101.setTop (mkF m 945 #[vi p1, vi p2, vi p3, vi p4, vi p5, vi x5, vi x6, vi x7, vi x8, vi x9, vu, vu, vu, vu] [(.int 41), (.ref a12), (.ref a12)]))
  refine DoneW.step (fun t k => XS.iload X101.here hx rfl (hb hby at_945) rfl k) ?_
  show DoneW p e below s _ _ _ (T101.setTop (mkF m 947 #[vi p1, vi p2, vi p3, vi p4, vi p5, vi x5, vi x6, vi x7, vi x8, vi x9, vu, vu, vu, vu] [(.int x8), (.int 41), (.ref a12), (.ref a12)]))
  obtain ⟨T109, h109, X109, e109, W109, A109, st109⟩ := stoC X101 hx hZ e101 f102 (j := (41 : Int32)) (by decide) (i := 41) (by decide) (by rw [List.length_map, RR.len (by decide)]; decide) (g := (mkF m 947 #[vi p1, vi p2, vi p3, vi p4, vi p5, vi x5, vi x6, vi x7, vi x8, vi x9, vu, vu, vu, vu] [(.int x8), (.int 41), (.ref a12), (.ref a12)])) rfl rfl (hb hby at_947)
  have f110 : Ax Z h109 a12 .char ((RR 65 42 x8).map Value.int) := (by have q := A109; rw [own_rr (by decide) hc8] at q; exact q)
  have f111 := f103.wr W109
  have f112 := f104.wr W109
  have f113 := f105.wr W109
  have f114 := f106.wr W109
  have f115 := f107.wr W109
  have f116 := f108.wr W109
  have Z109 := Nat.le_trans Z101 (Keep.of_wr W109).1
  have N109 := Fr.snoc X109 N101 g12
  refine DoneW.step st109 ?_
  show DoneW p e below s _ _ _ (T109.setTop (mkF m 948 #[vi p1, vi p2, vi p3, vi p4, vi p5, vi x5, vi x6, vi x7, vi x8, vi x9, vu, vu, vu, vu] [(.ref a12)]))
  refine DoneW.step (fun t k => XS.dup X109.here hx rfl (hb hby at_948) rfl rfl k) ?_
  show DoneW p e below s _ _ _ (T109.setTop (mkF m 949 #[vi p1, vi p2, vi p3, vi p4, vi p5, vi x5, vi x6, vi x7, vi x8, vi x9, vu, vu, vu, vu] [(.ref a12), (.ref a12)]))
  refine DoneW.step (fun t k => XS.bipush X109.here hx rfl (hb hby at_949) k) ?_
  show DoneW p e below s _ _ _ (T109.setTop (mkF m 951 #[vi p1, vi p2, vi p3, vi p4, vi p5, vi x5, vi x6, vi x7, vi x8, vi x9, vu, vu, vu, vu] [(.int 42), (.ref a12), (.ref a12)]))
  refine DoneW.step (fun t k => XS.iload X109.here hx rfl (hb hby at_951) rfl k) ?_
  show DoneW p e below s _ _ _ (T109.setTop (mkF m 953 #[vi p1, vi p2, vi p3, vi p4, vi p5, vi x5, vi x6, vi x7, vi x8, vi x9, vu, vu, vu, vu] [(.int x8), (.int 42), (.ref a12), (.ref a12)]))
  obtain ⟨T117, h117, X117, e117, W117, A117, st117⟩ := stoC X109 hx hZ e109 f110 (j := (42 : Int32)) (by decide) (i := 42) (by decide) (by rw [List.length_map, RR.len (by decide)]; decide) (g := (mkF m 953 #[vi p1, vi p2, vi p3, vi p4, vi p5, vi x5, vi x6, vi x7, vi x8, vi x9, vu, vu, vu, vu] [(.int x8), (.int 42), (.ref a12), (.ref a12)])) rfl rfl (hb hby at_953)
  have f118 : Ax Z h117 a12 .char ((RR 65 43 x8).map Value.int) := (by have q := A117; rw [own_rr (by decide) hc8] at q; exact q)
  have f119 := f111.wr W117
  have f120 := f112.wr W117
  have f121 := f113.wr W117
  have f122 := f114.wr W117
  have f123 := f115.wr W117
  have f124 := f116.wr W117
  have Z117 := Nat.le_trans Z109 (Keep.of_wr W117).1
  have N117 := Fr.snoc X117 N109 g12
  refine DoneW.step st117 ?_
  show DoneW p e below s _ _ _ (T117.setTop (mkF m 954 #[vi p1, vi p2, vi p3, vi p4, vi p5, vi x5, vi x6, vi x7, vi x8, vi x9, vu, vu, vu, vu] [(.ref a12)]))
  refine DoneW.step (fun t k => XS.dup X117.here hx rfl (hb hby at_954) rfl rfl k) ?_
  show DoneW p e below s _ _ _ (T117.setTop (mkF m 955 #[vi p1, vi p2, vi p3, vi p4, vi p5, vi x5, vi x6, vi x7, vi x8, vi x9, vu, vu, vu, vu] [(.ref a12), (.ref a12)]))
  refine DoneW.step (fun t k => XS.bipush X117.here hx rfl (hb hby at_955) k) ?_
  show DoneW p e below s _ _ _ (T117.setTop (mkF m 957 #[vi p1, vi p2, vi p3, vi p4, vi p5, vi x5, vi x6, vi x7, vi x8, vi x9, vu, vu, vu, vu] [(.int 43), (.ref a12), (.ref a12)]))
  refine DoneW.step (fun t k => XS.iload X117.here hx rfl (hb hby at_957) rfl k) ?_
  show DoneW p e below s _ _ _ (T117.setTop (mkF m 959 #[vi p1, vi p2, vi p3, vi p4, vi p5, vi x5, vi x6, vi x7, vi x8, vi x9, vu, vu, vu, vu] [(.int x8), (.int 43), (.ref a12), (.ref a12)]))
  obtain ⟨T125, h125, X125, e125, W125, A125, st125⟩ := stoC X117 hx hZ e117 f118 (j := (43 : Int32)) (by decide) (i := 43) (by decide) (by rw [List.length_map, RR.len (by decide)]; decide) (g := (mkF m 959 #[vi p1, vi p2, vi p3, vi p4, vi p5, vi x5, vi x6, vi x7, vi x8, vi x9, vu, vu, vu, vu] [(.int x8), (.int 43), (.ref a12), (.ref a12)])) rfl rfl (hb hby at_959)
  have f126 : Ax Z h125 a12 .char ((RR 65 44 x8).map Value.int) := (by have q := A125; rw [own_rr (by decide) hc8] at q; exact q)
  have f127 := f119.wr W125
  have f128 := f120.wr W125
  have f129 := f121.wr W125
  have f130 := f122.wr W125
  have f131 := f123.wr W125
  have f132 := f124.wr W125
  have Z125 := Nat.le_trans Z117 (Keep.of_wr W125).1
  have N125 := Fr.snoc X125 N117 g12
  refine DoneW.step st125 ?_
  show DoneW p e below s _ _ _ (T125.setTop (mkF m 960 #[vi p1, vi p2, vi p3, vi p4, vi p5, vi x5, vi x6, vi x7, vi x8, vi x9, vu, vu, vu, vu] [(.ref a12)]))
  refine DoneW.step (fun t k => XS.dup X125.here hx rfl (hb hby at_960) rfl rfl k) ?_
  show DoneW p e below s _ _ _ (T125.setTop (mkF m 961 #[vi p1, vi p2, vi p3, vi p4, vi p5, vi x5, vi x6, vi x7, vi x8, vi x9, vu, vu, vu, vu] [(.ref a12), (.ref a12)]))
  refine DoneW.step (fun t k => XS.bipush X125.here hx rfl (hb hby at_961) k) ?_
  show DoneW p e below s _ _ _ (T125.setTop (mkF m 963 #[vi p1, vi p2, vi p3, vi p4, vi p5, vi x5, vi x6, vi x7, vi x8, vi x9, vu, vu, vu, vu] [(.int 44), (.ref a12), (.ref a12)]))
  refine DoneW.step (fun t k => XS.iload X125.here hx rfl (hb hby at_963) rfl k) ?_
  show DoneW p e below s _ _ _ (T125.setTop (mkF m 965 #[vi p1, vi p2, vi p3, vi p4, vi p5, vi x5, vi x6, vi x7, vi x8, vi x9, vu, vu, vu, vu] [(.int x8), (.int 44), (.ref a12), (.ref a12)]))
  obtain ⟨T133, h133, X133, e133, W133, A133, st133⟩ := stoC X125 hx hZ e125 f126 (j := (44 : Int32)) (by decide) (i := 44) (by decide) (by rw [List.length_map, RR.len (by decide)]; decide) (g := (mkF m 965 #[vi p1, vi p2, vi p3, vi p4, vi p5, vi x5, vi x6, vi x7, vi x8, vi x9, vu, vu, vu, vu] [(.int x8), (.int 44), (.ref a12), (.ref a12)])) rfl rfl (hb hby at_965)
  have f134 : Ax Z h133 a12 .char ((RR 65 45 x8).map Value.int) := (by have q := A133; rw [own_rr (by decide) hc8] at q; exact q)
  have f135 := f127.wr W133
  have f136 := f128.wr W133
  have f137 := f129.wr W133
  have f138 := f130.wr W133
  have f139 := f131.wr W133
  have f140 := f132.wr W133
  have Z133 := Nat.le_trans Z125 (Keep.of_wr W133).1
  have N133 := Fr.snoc X133 N125 g12
  refine DoneW.step st133 ?_
  show DoneW p e below s _ _ _ (T133.setTop (mkF m 966 #[vi p1, vi p2, vi p3, vi p4, vi p5, vi x5, vi x6, vi x7, vi x8, vi x9, vu, vu, vu, vu] [(.ref a12)]))
  refine DoneW.step (fun t k => XS.dup X133.here hx rfl (hb hby at_966) rfl rfl k) ?_
  show DoneW p e below s _ _ _ (T133.setTop (mkF m 967 #[vi p1, vi p2, vi p3, vi p4, vi p5, vi x5, vi x6, vi x7, vi x8, vi x9, vu, vu, vu, vu] [(.ref a12), (.ref a12)]))
  refine DoneW.step (fun t k => XS.bipush X133.here hx rfl (hb hby at_967) k) ?_
  show DoneW p e below s _ _ _ (T133.setTop (mkF m 969 #[vi p1, vi p2, vi p3, vi p4, vi p5, vi x5, vi x6, vi x7, vi x8, vi x9, vu, vu, vu, vu] [(.int 45), (.ref a12), (.ref a12)]))
  refine DoneW.step (fun t k => XS.iload X133.here hx rfl (hb hby at_969) rfl k) ?_
  show DoneW p e below s _ _ _ (T133.setTop (mkF m 971 #[vi p1, vi p2, vi p3, vi p4, vi p5, vi x5, vi x6, vi x7, vi x8, vi x9, vu, vu, vu, vu] [(.int x8), (.int 45), (.ref a12), (.ref a12)]))
  obtain ⟨T141, h141, X141, e141, W141, A141, st141⟩ := stoC X133 hx hZ e133 f134 (j := (45 : Int32)) (by decide) (i := 45) (by decide) (by rw [List.length_map, RR.len (by decide)]; decide) (g := (mkF m 971 #[vi p1, vi p2, vi p3, vi p4, vi p5, vi x5, vi x6, vi x7, vi x8, vi x9, vu, vu, vu, vu] [(.int x8), (.int 45), (.ref a12), (.ref a12)])) rfl rfl (hb hby at_971)
  have f142 : Ax Z h141 a12 .char ((RR 65 46 x8).map Value.int) := (by have q := A141; rw [own_rr (by decide) hc8] at q; exact q)
  have f143 := f135.wr W141
  have f144 := f136.wr W141
  have f145 := f137.wr W141
  have f146 := f138.wr W141
  have f147 := f139.wr W141
  have f148 := f140.wr W141
  have Z141 := Nat.le_trans Z133 (Keep.of_wr W141).1
  have N141 := Fr.snoc X141 N133 g12
  refine DoneW.step st141 ?_
  show DoneW p e below s _ _ _ (T141.setTop (mkF m 972 #[vi p1, vi p2, vi p3, vi p4, vi p5, vi x5, vi x6, vi x7, vi x8, vi x9, vu, vu, vu, vu] [(.ref a12)]))
  refine DoneW.step (fun t k => XS.dup X141.here hx rfl (hb hby at_972) rfl rfl k) ?_
  show DoneW p e below s _ _ _ (T141.setTop (mkF m 973 #[vi p1, vi p2, vi p3, vi p4, vi p5, vi x5, vi x6, vi x7, vi x8, vi x9, vu, vu, vu, vu] [(.ref a12), (.ref a12)]))
  refine DoneW.step (fun t k => XS.bipush X141.here hx rfl (hb hby at_973) k) ?_
  show DoneW p e below s _ _ _ (T141.setTop (mkF m 975 #[vi p1, vi p2, vi p3, vi p4, vi p5, vi x5, vi x6, vi x7, vi x8, vi x9, vu, vu, vu, vu] [(.int 46), (.ref a12), (.ref a12)]))
  refine DoneW.step (fun t k => XS.iload X141.here hx rfl (hb hby at_975) rfl k) ?_
  show DoneW p e below s _ _ _ (T141.setTop (mkF m 977 #[vi p1, vi p2, vi p3, vi p4, vi p5, vi x5, vi x6, vi x7, vi x8, vi x9, vu, vu, vu, vu] [(.int x8), (.int 46), (.ref a12), (.ref a12)]))
  obtain ⟨T149, h149, X149, e149, W149, A149, st149⟩ := stoC X141 hx hZ e141 f142 (j := (46 : Int32)) (by decide) (i := 46) (by decide) (by rw [List.length_map, RR.len (by decide)]; decide) (g := (mkF m 977 #[vi p1, vi p2, vi p3, vi p4, vi p5, vi x5, vi x6, vi x7, vi x8, vi x9, vu, vu, vu, vu] [(.int x8), (.int 46), (.ref a12), (.ref a12)])) rfl rfl (hb hby at_977)
  have f150 : Ax Z h149 a12 .char ((RR 65 47 x8).map Value.int) := (by have q := A149; rw [own_rr (by decide) hc8] at q; exact q)
  have f151 := f143.wr W149
  have f152 := f144.wr W149
  have f153 := f145.wr W149
  have f154 := f146.wr W149
  have f155 := f147.wr W149
  have f156 := f148.wr W149
  have Z149 := Nat.le_trans Z141 (Keep.of_wr W149).1
  have N149 := Fr.snoc X149 N141 g12
  refine DoneW.step st149 ?_
  show DoneW p e below s _ _ _ (T149.setTop (mkF m 978 #[vi p1, vi p2, vi p3, vi p4, vi p5, vi x5, vi x6, vi x7, vi x8, vi x9, vu, vu, vu, vu] [(.ref a12)]))
  refine DoneW.step (fun t k => XS.dup X149.here hx rfl (hb hby at_978) rfl rfl k) ?_
  show DoneW p e below s _ _ _ (T149.setTop (mkF m 979 #[vi p1, vi p2, vi p3, vi p4, vi p5, vi x5, vi x6, vi x7, vi x8, vi x9, vu, vu, vu, vu] [(.ref a12), (.ref a12)]))
  refine DoneW.step (fun t k => XS.bipush X149.here hx rfl (hb hby at_979) k) ?_
  show DoneW p e below s _ _ _ (T149.setTop (mkF m 981 #[vi p1, vi p2, vi p3, vi p4, vi p5, vi x5, vi x6, vi x7, vi x8, vi x9, vu, vu, vu, vu] [(.int 47), (.ref a12), (.ref a12)]))
  refine DoneW.step (fun t k => XS.iload X149.here hx rfl (hb hby at_981) rfl k) ?_
  show DoneW p e below s _ _ _ (T149.setTop (mkF m 983 #[vi p1, vi p2, vi p3, vi p4, vi p5, vi x5, vi x6, vi x7, vi x8, vi x9, vu, vu, vu, vu] [(.int x8), (.int 47), (.ref a12), (.ref a12)]))
  obtain ⟨T157, h157, X157, e157, W157, A157, st157⟩ := stoC X149 hx hZ e149 f150 (j := (47 : Int32)) (by decide) (i := 47) (by decide) (by rw [List.length_map, RR.len (by decide)]; decide) (g := (mkF m 983 #[vi p1, vi p2, vi p3, vi p4, vi p5, vi x5, vi x6, vi x7, vi x8, vi x9, vu, vu, vu, vu] [(.int x8), (.int 47), (.ref a12), (.ref a12)])) rfl rfl (hb hby at_983)
  have f158 : Ax Z h157 a12 .char ((RR 65 48 x8).map Value.int) := (by have q := A157; rw [own_rr (by decide) hc8] at q; exact q)
  have f159 := f151.wr W157
  have f160 := f152.wr W157
  have f161 := f153.wr W157
  have f162 := f154.wr W157
  have f163 := f155.wr W157
  have f164 := f156.wr W157
  have Z157 := Nat.le_trans Z149 (Keep.of_wr W157).1
  have N157 := Fr.snoc X157 N149 g12
  refine DoneW.step st157 ?_
  show DoneW p e below s _ _ _ (T157.setTop (mkF m 984 #[vi p1, vi p2, vi p3, vi p4, vi p5, vi x5, vi x6, vi x7, vi x8, vi x9, vu, vu, vu, vu] [(.ref a12)]))
  exact fill984 p1 p2 p3 p4 p5 x5 x6 x7 x8 x9 a12 cs sv X157 hx hZ hw hby hml hown hlk hret hnm N157 Z157 e157 f158 f159 g12 f160 f161 hsv f162 f163 f164 hcs hr5 hr6 hr7 hr8 hc5 hc6 hc7 hc8
set_option maxRecDepth 65536 in
set_option maxHeartbeats 40000000 in
theorem fill888 {p : Program} {l : Launch} {e : Env} {s : State} {m : MethodId} {args : Array Value} {below : List Frame} {meth : Method} {c : Code} {T : State} {locs : List Loc} {Z : State} {a0 : Array Value} {h0 : Heap} {n0 : Nat} (p1 p2 p3 p4 p5 x5 x6 x7 x8 x9 : Int32) (a12 : Addr) (cs : Int32) (sv : Value)
    (X0 : Stand p l e room_1 s m args below meth c T locs 1 65) (hx : p.tables.exec = Jvm.exec) (hZ : Z.Warmed39 s.vm) (hw : HH a0 Z) (hby : c.code = code) (hml : c.maxLocals = 14) (hown : s.vm.findClass "com/example/stowage/stowage/model/NamesIsNamePinLaw" = some m.cls) (hlk : meth.locks = false) (hret : meth.sig.returnType = ret) (hnm : meth.name = "law") (N0 : Fr n0 locs) (Z0 : n0 ≤ h0.size) (e0 : T.heap = h0) (A12 : Ax Z h0 a12 .char ((RR 65 32 x8).map Value.int)) (E12 : Fl4 Z h0 a12) (g12 : n0 ≤ a12) (Scs : Sta Z h0 "java/lang/String" "COMPACT_STRINGS" "Z" (.int cs)) (Ssx : Sta Z h0 "jdk/internal/util/Preconditions" "SIOOBE_FORMATTER" "Ljava/util/function/BiFunction;" sv) (hsv : sv.isRef = true) (Sad : Sta Z h0 "java/lang/StringUTF16" "$assertionsDisabled" "Z" (.int 1)) (Shi : Sta Z h0 "java/lang/StringUTF16" "HI_BYTE_SHIFT" "I" (.int 0)) (Slo : Sta Z h0 "java/lang/StringUTF16" "LO_BYTE_SHIFT" "I" (.int 8)) (hcs : ¬ cs = (0 : Int32)) (hr5 : 0 ≤ x5.toInt ∧ x5.toInt < 65536) (hr6 : 0 ≤ x6.toInt ∧ x6.toInt < 65536) (hr7 : 0 ≤ x7.toInt ∧ x7.toInt < 65536) (hr8 : 0 ≤ x8.toInt ∧ x8.toInt < 65536) (hc5 : nar .char x5 = x5) (hc6 : nar .char x6 = x6) (hc7 : nar .char x7 = x7) (hc8 : nar .char x8 = x8) :
    DoneW p e below s (fun v h L => v = some (.int 1) ∧ Fr n0 L) room_1.cells room_1.slots (T.setTop (mkF m 888 #[vi p1, vi p2, vi p3, vi p4, vi p5, vi x5, vi x6, vi x7, vi x8, vi x9, vu, vu, vu, vu] [(.ref a12)])) := by
  show DoneW p e below s _ _ _ (T.setTop (mkF m 888 #[vi p1, vi p2, vi p3, vi p4, vi p5, vi x5, vi x6, vi x7, vi x8, vi x9, vu, vu, vu, vu] [(.ref a12)]))
  refine DoneW.step (fun t k => XS.dup X0.here hx rfl (hb hby at_888) rfl rfl k) ?_
  show DoneW p e below s _ _ _ (T.setTop (mkF m 889 #[vi p1, vi p2, vi p3, vi p4, vi p5, vi x5, vi x6, vi x7, vi x8, vi x9, vu, vu, vu, vu] [(.ref a12), (.ref a12)]))
  refine DoneW.step (fun t k => XS.bipush X0.here hx rfl (hb hby at_889) k) ?_
  show DoneW p e below s _ _ _ (T.setTop (mkF m 891 #[vi p1, vi p2, vi p3, vi p4, vi p5, vi x5, vi x6, vi x7, vi x8, vi x9, vu, vu, vu, vu] [(.int 32), (.ref a12), (.ref a12)]))
  refine DoneW.step (fun t k => XS.iload X0.here hx rfl (hb hby at_891) rfl k) ?_
  show DoneW p e below s _ _ _ (T.setTop (mkF m 893 #[vi p1, vi p2, vi p3, vi p4, vi p5, vi x5, vi x6, vi x7, vi x8, vi x9, vu, vu, vu, vu] [(.int x8), (.int 32), (.ref a12), (.ref a12)]))
  obtain ⟨T101, h101, X101, e101, W101, A101, st101⟩ := stoC X0 hx hZ e0 A12 (j := (32 : Int32)) (by decide) (i := 32) (by decide) (by rw [List.length_map, RR.len (by decide)]; decide) (g := (mkF m 893 #[vi p1, vi p2, vi p3, vi p4, vi p5, vi x5, vi x6, vi x7, vi x8, vi x9, vu, vu, vu, vu] [(.int x8), (.int 32), (.ref a12), (.ref a12)])) rfl rfl (hb hby at_893)
  have f102 : Ax Z h101 a12 .char ((RR 65 33 x8).map Value.int) := (by have q := A101; rw [own_rr (by decide) hc8] at q; exact q)
  have f103 := E12.wr W101
  have f104 := Scs.wr W101
  have f105 := Ssx.wr W101
  have f106 := Sad.wr W101
  have f107 := Shi.wr W101
  have f108 := Slo.wr W101
  have Z101 := Nat.le_trans Z0 (Keep.of_wr W101).1
  have N101 := Fr.snoc X101 N0 g12
  refine DoneW.step st101 ?_
  show DoneW p e below s _ _ _ (T101.setTop (mkF m 894 #[vi p1, vi p2, vi p3, vi p4, vi p5, vi x5, vi x6, vi x7, vi x8, vi x9, vu, vu, vu, vu] [(.ref a12)]))
  refine DoneW.step (fun t k => XS.dup X101.here hx rfl (hb hby at_894) rfl rfl k) ?_
  show DoneW p e below s _ _ _ (T101.setTop (mkF m 895 #[vi p1, vi p2, vi p3, vi p4, vi p5, vi x5, vi x6, vi x7, vi x8, vi x9, vu, vu, vu, vu] [(.ref a12), (.ref a12)]))
  refine DoneW.step (fun t k => XS.bipush X101.here hx rfl (hb hby at_895) k) ?_
  show DoneW p e below s _ _ _ (T101.setTop (mkF m 897 #[vi p1, vi p2, vi p3, vi p4, vi p5, vi x5, vi x6, vi x7, vi x8, vi x9, vu, vu, vu, vu] [(.int 33), (.ref a12), (.ref a12)]))
  refine DoneW.step (fun t k => XS.iload X101.here hx rfl (hb hby at_897) rfl k) ?_
  show DoneW p e below s _ _ _ (T101.setTop (mkF m 899 #[vi p1, vi p2, vi p3, vi p4, vi p5, vi x5, vi x6, vi x7, vi x8, vi x9, vu, vu, vu, vu] [(.int x8), (.int 33), (.ref a12), (.ref a12)]))
  obtain ⟨T109, h109, X109, e109, W109, A109, st109⟩ := stoC X101 hx hZ e101 f102 (j := (33 : Int32)) (by decide) (i := 33) (by decide) (by rw [List.length_map, RR.len (by decide)]; decide) (g := (mkF m 899 #[vi p1, vi p2, vi p3, vi p4, vi p5, vi x5, vi x6, vi x7, vi x8, vi x9, vu, vu, vu, vu] [(.int x8), (.int 33), (.ref a12), (.ref a12)])) rfl rfl (hb hby at_899)
  have f110 : Ax Z h109 a12 .char ((RR 65 34 x8).map Value.int) := (by have q := A109; rw [own_rr (by decide) hc8] at q; exact q)
  have f111 := f103.wr W109
  have f112 := f104.wr W109
  have f113 := f105.wr W109
  have f114 := f106.wr W109
  have f115 := f107.wr W109
  have f116 := f108.wr W109
  have Z109 := Nat.le_trans Z101 (Keep.of_wr W109).1
  have N109 := Fr.snoc X109 N101 g12
  refine DoneW.step st109 ?_
  show DoneW p e below s _ _ _ (T109.setTop (mkF m 900 #[vi p1, vi p2, vi p3, vi p4, vi p5, vi x5, vi x6, vi x7, vi x8, vi x9, vu, vu, vu, vu] [(.ref a12)]))
  refine DoneW.step (fun t k => XS.dup X109.here hx rfl (hb hby at_900) rfl rfl k) ?_
  show DoneW p e below s _ _ _ (T109.setTop (mkF m 901 #[vi p1, vi p2, vi p3, vi p4, vi p5, vi x5, vi x6, vi x7, vi x8, vi x9, vu, vu, vu, vu] [(.ref a12), (.ref a12)]))
  refine DoneW.step (fun t k => XS.bipush X109.here hx rfl (hb hby at_901) k) ?_
  show DoneW p e below s _ _ _ (T109.setTop (mkF m 903 #[vi p1, vi p2, vi p3, vi p4, vi p5, vi x5, vi x6, vi x7, vi x8, vi x9, vu, vu, vu, vu] [(.int 34), (.ref a12), (.ref a12)]))
  refine DoneW.step (fun t k => XS.iload X109.here hx rfl (hb hby at_903) rfl k) ?_
  show DoneW p e below s _ _ _ (T109.setTop (mkF m 905 #[vi p1, vi p2, vi p3, vi p4, vi p5, vi x5, vi x6, vi x7, vi x8, vi x9, vu, vu, vu, vu] [(.int x8), (.int 34), (.ref a12), (.ref a12)]))
  obtain ⟨T117, h117, X117, e117, W117, A117, st117⟩ := stoC X109 hx hZ e109 f110 (j := (34 : Int32)) (by decide) (i := 34) (by decide) (by rw [List.length_map, RR.len (by decide)]; decide) (g := (mkF m 905 #[vi p1, vi p2, vi p3, vi p4, vi p5, vi x5, vi x6, vi x7, vi x8, vi x9, vu, vu, vu, vu] [(.int x8), (.int 34), (.ref a12), (.ref a12)])) rfl rfl (hb hby at_905)
  have f118 : Ax Z h117 a12 .char ((RR 65 35 x8).map Value.int) := (by have q := A117; rw [own_rr (by decide) hc8] at q; exact q)
  have f119 := f111.wr W117
  have f120 := f112.wr W117
  have f121 := f113.wr W117
  have f122 := f114.wr W117
  have f123 := f115.wr W117
  have f124 := f116.wr W117
  have Z117 := Nat.le_trans Z109 (Keep.of_wr W117).1
  have N117 := Fr.snoc X117 N109 g12
  refine DoneW.step st117 ?_
  show DoneW p e below s _ _ _ (T117.setTop (mkF m 906 #[vi p1, vi p2, vi p3, vi p4, vi p5, vi x5, vi x6, vi x7, vi x8, vi x9, vu, vu, vu, vu] [(.ref a12)]))
  refine DoneW.step (fun t k => XS.dup X117.here hx rfl (hb hby at_906) rfl rfl k) ?_
  show DoneW p e below s _ _ _ (T117.setTop (mkF m 907 #[vi p1, vi p2, vi p3, vi p4, vi p5, vi x5, vi x6, vi x7, vi x8, vi x9, vu, vu, vu, vu] [(.ref a12), (.ref a12)]))
  refine DoneW.step (fun t k => XS.bipush X117.here hx rfl (hb hby at_907) k) ?_
  show DoneW p e below s _ _ _ (T117.setTop (mkF m 909 #[vi p1, vi p2, vi p3, vi p4, vi p5, vi x5, vi x6, vi x7, vi x8, vi x9, vu, vu, vu, vu] [(.int 35), (.ref a12), (.ref a12)]))
  refine DoneW.step (fun t k => XS.iload X117.here hx rfl (hb hby at_909) rfl k) ?_
  show DoneW p e below s _ _ _ (T117.setTop (mkF m 911 #[vi p1, vi p2, vi p3, vi p4, vi p5, vi x5, vi x6, vi x7, vi x8, vi x9, vu, vu, vu, vu] [(.int x8), (.int 35), (.ref a12), (.ref a12)]))
  obtain ⟨T125, h125, X125, e125, W125, A125, st125⟩ := stoC X117 hx hZ e117 f118 (j := (35 : Int32)) (by decide) (i := 35) (by decide) (by rw [List.length_map, RR.len (by decide)]; decide) (g := (mkF m 911 #[vi p1, vi p2, vi p3, vi p4, vi p5, vi x5, vi x6, vi x7, vi x8, vi x9, vu, vu, vu, vu] [(.int x8), (.int 35), (.ref a12), (.ref a12)])) rfl rfl (hb hby at_911)
  have f126 : Ax Z h125 a12 .char ((RR 65 36 x8).map Value.int) := (by have q := A125; rw [own_rr (by decide) hc8] at q; exact q)
  have f127 := f119.wr W125
  have f128 := f120.wr W125
  have f129 := f121.wr W125
  have f130 := f122.wr W125
  have f131 := f123.wr W125
  have f132 := f124.wr W125
  have Z125 := Nat.le_trans Z117 (Keep.of_wr W125).1
  have N125 := Fr.snoc X125 N117 g12
  refine DoneW.step st125 ?_
  show DoneW p e below s _ _ _ (T125.setTop (mkF m 912 #[vi p1, vi p2, vi p3, vi p4, vi p5, vi x5, vi x6, vi x7, vi x8, vi x9, vu, vu, vu, vu] [(.ref a12)]))
  refine DoneW.step (fun t k => XS.dup X125.here hx rfl (hb hby at_912) rfl rfl k) ?_
  show DoneW p e below s _ _ _ (T125.setTop (mkF m 913 #[vi p1, vi p2, vi p3, vi p4, vi p5, vi x5, vi x6, vi x7, vi x8, vi x9, vu, vu, vu, vu] [(.ref a12), (.ref a12)]))
  refine DoneW.step (fun t k => XS.bipush X125.here hx rfl (hb hby at_913) k) ?_
  show DoneW p e below s _ _ _ (T125.setTop (mkF m 915 #[vi p1, vi p2, vi p3, vi p4, vi p5, vi x5, vi x6, vi x7, vi x8, vi x9, vu, vu, vu, vu] [(.int 36), (.ref a12), (.ref a12)]))
  refine DoneW.step (fun t k => XS.iload X125.here hx rfl (hb hby at_915) rfl k) ?_
  show DoneW p e below s _ _ _ (T125.setTop (mkF m 917 #[vi p1, vi p2, vi p3, vi p4, vi p5, vi x5, vi x6, vi x7, vi x8, vi x9, vu, vu, vu, vu] [(.int x8), (.int 36), (.ref a12), (.ref a12)]))
  obtain ⟨T133, h133, X133, e133, W133, A133, st133⟩ := stoC X125 hx hZ e125 f126 (j := (36 : Int32)) (by decide) (i := 36) (by decide) (by rw [List.length_map, RR.len (by decide)]; decide) (g := (mkF m 917 #[vi p1, vi p2, vi p3, vi p4, vi p5, vi x5, vi x6, vi x7, vi x8, vi x9, vu, vu, vu, vu] [(.int x8), (.int 36), (.ref a12), (.ref a12)])) rfl rfl (hb hby at_917)
  have f134 : Ax Z h133 a12 .char ((RR 65 37 x8).map Value.int) := (by have q := A133; rw [own_rr (by decide) hc8] at q; exact q)
  have f135 := f127.wr W133
  have f136 := f128.wr W133
  have f137 := f129.wr W133
  have f138 := f130.wr W133
  have f139 := f131.wr W133
  have f140 := f132.wr W133
  have Z133 := Nat.le_trans Z125 (Keep.of_wr W133).1
  have N133 := Fr.snoc X133 N125 g12
  refine DoneW.step st133 ?_
  show DoneW p e below s _ _ _ (T133.setTop (mkF m 918 #[vi p1, vi p2, vi p3, vi p4, vi p5, vi x5, vi x6, vi x7, vi x8, vi x9, vu, vu, vu, vu] [(.ref a12)]))
  refine DoneW.step (fun t k => XS.dup X133.here hx rfl (hb hby at_918) rfl rfl k) ?_
  show DoneW p e below s _ _ _ (T133.setTop (mkF m 919 #[vi p1, vi p2, vi p3, vi p4, vi p5, vi x5, vi x6, vi x7, vi x8, vi x9, vu, vu, vu, vu] [(.ref a12), (.ref a12)]))
  refine DoneW.step (fun t k => XS.bipush X133.here hx rfl (hb hby at_919) k) ?_
  show DoneW p e below s _ _ _ (T133.setTop (mkF m 921 #[vi p1, vi p2, vi p3, vi p4, vi p5, vi x5, vi x6, vi x7, vi x8, vi x9, vu, vu, vu, vu] [(.int 37), (.ref a12), (.ref a12)]))
  refine DoneW.step (fun t k => XS.iload X133.here hx rfl (hb hby at_921) rfl k) ?_
  show DoneW p e below s _ _ _ (T133.setTop (mkF m 923 #[vi p1, vi p2, vi p3, vi p4, vi p5, vi x5, vi x6, vi x7, vi x8, vi x9, vu, vu, vu, vu] [(.int x8), (.int 37), (.ref a12), (.ref a12)]))
  obtain ⟨T141, h141, X141, e141, W141, A141, st141⟩ := stoC X133 hx hZ e133 f134 (j := (37 : Int32)) (by decide) (i := 37) (by decide) (by rw [List.length_map, RR.len (by decide)]; decide) (g := (mkF m 923 #[vi p1, vi p2, vi p3, vi p4, vi p5, vi x5, vi x6, vi x7, vi x8, vi x9, vu, vu, vu, vu] [(.int x8), (.int 37), (.ref a12), (.ref a12)])) rfl rfl (hb hby at_923)
  have f142 : Ax Z h141 a12 .char ((RR 65 38 x8).map Value.int) := (by have q := A141; rw [own_rr (by decide) hc8] at q; exact q)
  have f143 := f135.wr W141
  have f144 := f136.wr W141
  have f145 := f137.wr W141
  have f146 := f138.wr W141
  have f147 := f139.wr W141
  have f148 := f140.wr W141
  have Z141 := Nat.le_trans Z133 (Keep.of_wr W141).1
  have N141 := Fr.snoc X141 N133 g12
  refine DoneW.step st141 ?_
  show DoneW p e below s _ _ _ (T141.setTop (mkF m 924 #[vi p1, vi p2, vi p3, vi p4, vi p5, vi x5, vi x6, vi x7, vi x8, vi x9, vu, vu, vu, vu] [(.ref a12)]))
  refine DoneW.step (fun t k => XS.dup X141.here hx rfl (hb hby at_924) rfl rfl k) ?_
  show DoneW p e below s _ _ _ (T141.setTop (mkF m 925 #[vi p1, vi p2, vi p3, vi p4, vi p5, vi x5, vi x6, vi x7, vi x8, vi x9, vu, vu, vu, vu] [(.ref a12), (.ref a12)]))
  refine DoneW.step (fun t k => XS.bipush X141.here hx rfl (hb hby at_925) k) ?_
  show DoneW p e below s _ _ _ (T141.setTop (mkF m 927 #[vi p1, vi p2, vi p3, vi p4, vi p5, vi x5, vi x6, vi x7, vi x8, vi x9, vu, vu, vu, vu] [(.int 38), (.ref a12), (.ref a12)]))
  refine DoneW.step (fun t k => XS.iload X141.here hx rfl (hb hby at_927) rfl k) ?_
  show DoneW p e below s _ _ _ (T141.setTop (mkF m 929 #[vi p1, vi p2, vi p3, vi p4, vi p5, vi x5, vi x6, vi x7, vi x8, vi x9, vu, vu, vu, vu] [(.int x8), (.int 38), (.ref a12), (.ref a12)]))
  obtain ⟨T149, h149, X149, e149, W149, A149, st149⟩ := stoC X141 hx hZ e141 f142 (j := (38 : Int32)) (by decide) (i := 38) (by decide) (by rw [List.length_map, RR.len (by decide)]; decide) (g := (mkF m 929 #[vi p1, vi p2, vi p3, vi p4, vi p5, vi x5, vi x6, vi x7, vi x8, vi x9, vu, vu, vu, vu] [(.int x8), (.int 38), (.ref a12), (.ref a12)])) rfl rfl (hb hby at_929)
  have f150 : Ax Z h149 a12 .char ((RR 65 39 x8).map Value.int) := (by have q := A149; rw [own_rr (by decide) hc8] at q; exact q)
  have f151 := f143.wr W149
  have f152 := f144.wr W149
  have f153 := f145.wr W149
  have f154 := f146.wr W149
  have f155 := f147.wr W149
  have f156 := f148.wr W149
  have Z149 := Nat.le_trans Z141 (Keep.of_wr W149).1
  have N149 := Fr.snoc X149 N141 g12
  refine DoneW.step st149 ?_
  show DoneW p e below s _ _ _ (T149.setTop (mkF m 930 #[vi p1, vi p2, vi p3, vi p4, vi p5, vi x5, vi x6, vi x7, vi x8, vi x9, vu, vu, vu, vu] [(.ref a12)]))
  refine DoneW.step (fun t k => XS.dup X149.here hx rfl (hb hby at_930) rfl rfl k) ?_
  show DoneW p e below s _ _ _ (T149.setTop (mkF m 931 #[vi p1, vi p2, vi p3, vi p4, vi p5, vi x5, vi x6, vi x7, vi x8, vi x9, vu, vu, vu, vu] [(.ref a12), (.ref a12)]))
  refine DoneW.step (fun t k => XS.bipush X149.here hx rfl (hb hby at_931) k) ?_
  show DoneW p e below s _ _ _ (T149.setTop (mkF m 933 #[vi p1, vi p2, vi p3, vi p4, vi p5, vi x5, vi x6, vi x7, vi x8, vi x9, vu, vu, vu, vu] [(.int 39), (.ref a12), (.ref a12)]))
  refine DoneW.step (fun t k => XS.iload X149.here hx rfl (hb hby at_933) rfl k) ?_
  show DoneW p e below s _ _ _ (T149.setTop (mkF m 935 #[vi p1, vi p2, vi p3, vi p4, vi p5, vi x5, vi x6, vi x7, vi x8, vi x9, vu, vu, vu, vu] [(.int x8), (.int 39), (.ref a12), (.ref a12)]))
  obtain ⟨T157, h157, X157, e157, W157, A157, st157⟩ := stoC X149 hx hZ e149 f150 (j := (39 : Int32)) (by decide) (i := 39) (by decide) (by rw [List.length_map, RR.len (by decide)]; decide) (g := (mkF m 935 #[vi p1, vi p2, vi p3, vi p4, vi p5, vi x5, vi x6, vi x7, vi x8, vi x9, vu, vu, vu, vu] [(.int x8), (.int 39), (.ref a12), (.ref a12)])) rfl rfl (hb hby at_935)
  have f158 : Ax Z h157 a12 .char ((RR 65 40 x8).map Value.int) := (by have q := A157; rw [own_rr (by decide) hc8] at q; exact q)
  have f159 := f151.wr W157
  have f160 := f152.wr W157
  have f161 := f153.wr W157
  have f162 := f154.wr W157
  have f163 := f155.wr W157
  have f164 := f156.wr W157
  have Z157 := Nat.le_trans Z149 (Keep.of_wr W157).1
  have N157 := Fr.snoc X157 N149 g12
  refine DoneW.step st157 ?_
  show DoneW p e below s _ _ _ (T157.setTop (mkF m 936 #[vi p1, vi p2, vi p3, vi p4, vi p5, vi x5, vi x6, vi x7, vi x8, vi x9, vu, vu, vu, vu] [(.ref a12)]))
  exact fill936 p1 p2 p3 p4 p5 x5 x6 x7 x8 x9 a12 cs sv X157 hx hZ hw hby hml hown hlk hret hnm N157 Z157 e157 f158 f159 g12 f160 f161 hsv f162 f163 f164 hcs hr5 hr6 hr7 hr8 hc5 hc6 hc7 hc8
set_option maxRecDepth 65536 in
set_option maxHeartbeats 40000000 in
theorem fill840 {p : Program} {l : Launch} {e : Env} {s : State} {m : MethodId} {args : Array Value} {below : List Frame} {meth : Method} {c : Code} {T : State} {locs : List Loc} {Z : State} {a0 : Array Value} {h0 : Heap} {n0 : Nat} (p1 p2 p3 p4 p5 x5 x6 x7 x8 x9 : Int32) (a12 : Addr) (cs : Int32) (sv : Value)
    (X0 : Stand p l e room_1 s m args below meth c T locs 1 65) (hx : p.tables.exec = Jvm.exec) (hZ : Z.Warmed39 s.vm) (hw : HH a0 Z) (hby : c.code = code) (hml : c.maxLocals = 14) (hown : s.vm.findClass "com/example/stowage/stowage/model/NamesIsNamePinLaw" = some m.cls) (hlk : meth.locks = false) (hret : meth.sig.returnType = ret) (hnm : meth.name = "law") (N0 : Fr n0 locs) (Z0 : n0 ≤ h0.size) (e0 : T.heap = h0) (A12 : Ax Z h0 a12 .char ((RR 65 24 x8).map Value.int)) (E12 : Fl4 Z h0 a12) (g12 : n0 ≤ a12) (Scs : Sta Z h0 "java/lang/String" "COMPACT_STRINGS" "Z" (.int cs)) (Ssx : Sta Z h0 "jdk/internal/util/Preconditions" "SIOOBE_FORMATTER" "Ljava/util/function/BiFunction;" sv) (hsv : sv.isRef = true) (Sad : Sta Z h0 "java/lang/StringUTF16" "$assertionsDisabled" "Z" (.int 1)) (Shi : Sta Z h0 "java/lang/StringUTF16" "HI_BYTE_SHIFT" "I" (.int 0)) (Slo : Sta Z h0 "java/lang/StringUTF16" "LO_BYTE_SHIFT" "I" (.int 8)) (hcs : ¬ cs = (0 : Int32)) (hr5 : 0 ≤ x5.toInt ∧ x5.toInt < 65536) (hr6 : 0 ≤ x6.toInt ∧ x6.toInt < 65536) (hr7 : 0 ≤ x7.toInt ∧ x7.toInt < 65536) (hr8 : 0 ≤ x8.toInt ∧ x8.toInt < 65536) (hc5 : nar .char x5 = x5) (hc6 : nar .char x6 = x6) (hc7 : nar .char x7 = x7) (hc8 : nar .char x8 = x8) :
    DoneW p e below s (fun v h L => v = some (.int 1) ∧ Fr n0 L) room_1.cells room_1.slots (T.setTop (mkF m 840 #[vi p1, vi p2, vi p3, vi p4, vi p5, vi x5, vi x6, vi x7, vi x8, vi x9, vu, vu, vu, vu] [(.ref a12)])) := by
  show DoneW p e below s _ _ _ (T.setTop (mkF m 840 #[vi p1, vi p2, vi p3, vi p4, vi p5, vi x5, vi x6, vi x7, vi x8, vi x9, vu, vu, vu, vu] [(.ref a12)]))
  refine DoneW.step (fun t k => XS.dup X0.here hx rfl (hb hby at_840) rfl rfl k) ?_
  show DoneW p e below s _ _ _ (T.setTop (mkF m 841 #[vi p1, vi p2, vi p3, vi p4, vi p5, vi x5, vi x6, vi x7, vi x8, vi x9, vu, vu, vu, vu] [(.ref a12), (.ref a12)]))
  refine DoneW.step (fun t k => XS.bipush X0.here hx rfl (hb hby at_841) k) ?_
  show DoneW p e below s _ _ _ (T.setTop (mkF m 843 #[vi p1, vi p2, vi p3, vi p4, vi p5, vi x5, vi x6, vi x7, vi x8, vi x9, vu, vu, vu, vu] [(.int 24), (.ref a12), (.ref a12)]))
  refine DoneW.step (fun t k => XS.iload X0.here hx rfl (hb hby at_843) rfl k) ?_
  show DoneW p e below s _ _ _ (T.setTop (mkF m 845 #[vi p1, vi p2, vi p3, vi p4, vi p5, vi x5, vi x6, vi x7, vi x8, vi x9, vu, vu, vu, vu] [(.int x8), (.int 24), (.ref a12), (.ref a12)]))
  obtain ⟨T101, h101, X101, e101, W101, A101, st101⟩ := stoC X0 hx hZ e0 A12 (j := (24 : Int32)) (by decide) (i := 24) (by decide) (by rw [List.length_map, RR.len (by decide)]; decide) (g := (mkF m 845 #[vi p1, vi p2, vi p3, vi p4, vi p5, vi x5, vi x6, vi x7, vi x8, vi x9, vu, vu, vu, vu] [(.int x8), (.int 24), (.ref a12), (.ref a12)])) rfl rfl (hb hby at_845)
  have f102 : Ax Z h101 a12 .char ((RR 65 25 x8).map Value.int) := (by have q := A101; rw [own_rr (by decide) hc8] at q; exact q)
  have f103 := E12.wr W101
  have f104 := Scs.wr W101
  have f105 := Ssx.wr W101
  have f106 := Sad.wr W101
  have f107 := Shi.wr W101
  have f108 := Slo.wr W101
  have Z101 := Nat.le_trans Z0 (Keep.of_wr W101).1
  have N101 := Fr.snoc X101 N0 g12
  refine DoneW.step st101 ?_
  show DoneW p e below s _ _ _ (T101.setTop (mkF m 846 #[vi p1, vi p2, vi p3, vi p4, vi p5, vi x5, vi x6, vi x7, vi x8, vi x9, vu, vu, vu, vu] [(.ref a12)]))
  refine DoneW.step (fun t k => XS.dup X101.here hx rfl (hb hby at_846) rfl rfl k) ?_
  show DoneW p e below s _ _ _ (T101.setTop (mkF m 847 #[vi p1, vi p2, vi p3, vi p4, vi p5, vi x5, vi x6, vi x7, vi x8, vi x9, vu, vu, vu, vu] [(.ref a12), (.ref a12)]))
  refine DoneW.step (fun t k => XS.bipush X101.here hx rfl (hb hby at_847) k) ?_
  show DoneW p e below s _ _ _ (T101.setTop (mkF m 849 #[vi p1, vi p2, vi p3, vi p4, vi p5, vi x5, vi x6, vi x7, vi x8, vi x9, vu, vu, vu, vu] [(.int 25), (.ref a12), (.ref a12)]))
  refine DoneW.step (fun t k => XS.iload X101.here hx rfl (hb hby at_849) rfl k) ?_
  show DoneW p e below s _ _ _ (T101.setTop (mkF m 851 #[vi p1, vi p2, vi p3, vi p4, vi p5, vi x5, vi x6, vi x7, vi x8, vi x9, vu, vu, vu, vu] [(.int x8), (.int 25), (.ref a12), (.ref a12)]))
  obtain ⟨T109, h109, X109, e109, W109, A109, st109⟩ := stoC X101 hx hZ e101 f102 (j := (25 : Int32)) (by decide) (i := 25) (by decide) (by rw [List.length_map, RR.len (by decide)]; decide) (g := (mkF m 851 #[vi p1, vi p2, vi p3, vi p4, vi p5, vi x5, vi x6, vi x7, vi x8, vi x9, vu, vu, vu, vu] [(.int x8), (.int 25), (.ref a12), (.ref a12)])) rfl rfl (hb hby at_851)
  have f110 : Ax Z h109 a12 .char ((RR 65 26 x8).map Value.int) := (by have q := A109; rw [own_rr (by decide) hc8] at q; exact q)
  have f111 := f103.wr W109
  have f112 := f104.wr W109
  have f113 := f105.wr W109
  have f114 := f106.wr W109
  have f115 := f107.wr W109
  have f116 := f108.wr W109
  have Z109 := Nat.le_trans Z101 (Keep.of_wr W109).1
  have N109 := Fr.snoc X109 N101 g12
  refine DoneW.step st109 ?_
  show DoneW p e below s _ _ _ (T109.setTop (mkF m 852 #[vi p1, vi p2, vi p3, vi p4, vi p5, vi x5, vi x6, vi x7, vi x8, vi x9, vu, vu, vu, vu] [(.ref a12)]))
  refine DoneW.step (fun t k => XS.dup X109.here hx rfl (hb hby at_852) rfl rfl k) ?_
  show DoneW p e below s _ _ _ (T109.setTop (mkF m 853 #[vi p1, vi p2, vi p3, vi p4, vi p5, vi x5, vi x6, vi x7, vi x8, vi x9, vu, vu, vu, vu] [(.ref a12), (.ref a12)]))
  refine DoneW.step (fun t k => XS.bipush X109.here hx rfl (hb hby at_853) k) ?_
  show DoneW p e below s _ _ _ (T109.setTop (mkF m 855 #[vi p1, vi p2, vi p3, vi p4, vi p5, vi x5, vi x6, vi x7, vi x8, vi x9, vu, vu, vu, vu] [(.int 26), (.ref a12), (.ref a12)]))
  refine DoneW.step (fun t k => XS.iload X109.here hx rfl (hb hby at_855) rfl k) ?_
  show DoneW p e below s _ _ _ (T109.setTop (mkF m 857 #[vi p1, vi p2, vi p3, vi p4, vi p5, vi x5, vi x6, vi x7, vi x8, vi x9, vu, vu, vu, vu] [(.int x8), (.int 26), (.ref a12), (.ref a12)]))
  obtain ⟨T117, h117, X117, e117, W117, A117, st117⟩ := stoC X109 hx hZ e109 f110 (j := (26 : Int32)) (by decide) (i := 26) (by decide) (by rw [List.length_map, RR.len (by decide)]; decide) (g := (mkF m 857 #[vi p1, vi p2, vi p3, vi p4, vi p5, vi x5, vi x6, vi x7, vi x8, vi x9, vu, vu, vu, vu] [(.int x8), (.int 26), (.ref a12), (.ref a12)])) rfl rfl (hb hby at_857)
  have f118 : Ax Z h117 a12 .char ((RR 65 27 x8).map Value.int) := (by have q := A117; rw [own_rr (by decide) hc8] at q; exact q)
  have f119 := f111.wr W117
  have f120 := f112.wr W117
  have f121 := f113.wr W117
  have f122 := f114.wr W117
  have f123 := f115.wr W117
  have f124 := f116.wr W117
  have Z117 := Nat.le_trans Z109 (Keep.of_wr W117).1
  have N117 := Fr.snoc X117 N109 g12
  refine DoneW.step st117 ?_
  show DoneW p e below s _ _ _ (T117.setTop (mkF m 858 #[vi p1, vi p2, vi p3, vi p4, vi p5, vi x5, vi x6, vi x7, vi x8, vi x9, vu, vu, vu, vu] [(.ref a12)]))
  refine DoneW.step (fun t k => XS.dup X117.here hx rfl (hb hby at_858) rfl rfl k) ?_
  show DoneW p e below s _ _ _ (T117.setTop (mkF m 859 #[vi p1, vi p2, vi p3, vi p4, vi p5, vi x5, vi x6, vi x7, vi x8, vi x9, vu, vu, vu, vu] [(.ref a12), (.ref a12)]))
  refine DoneW.step (fun t k => XS.bipush X117.here hx rfl (hb hby at_859) k) ?_
  show DoneW p e below s _ _ _ (T117.setTop (mkF m 861 #[vi p1, vi p2, vi p3, vi p4, vi p5, vi x5, vi x6, vi x7, vi x8, vi x9, vu, vu, vu, vu] [(.int 27), (.ref a12), (.ref a12)]))
  refine DoneW.step (fun t k => XS.iload X117.here hx rfl (hb hby at_861) rfl k) ?_
  show DoneW p e below s _ _ _ (T117.setTop (mkF m 863 #[vi p1, vi p2, vi p3, vi p4, vi p5, vi x5, vi x6, vi x7, vi x8, vi x9, vu, vu, vu, vu] [(.int x8), (.int 27), (.ref a12), (.ref a12)]))
  obtain ⟨T125, h125, X125, e125, W125, A125, st125⟩ := stoC X117 hx hZ e117 f118 (j := (27 : Int32)) (by decide) (i := 27) (by decide) (by rw [List.length_map, RR.len (by decide)]; decide) (g := (mkF m 863 #[vi p1, vi p2, vi p3, vi p4, vi p5, vi x5, vi x6, vi x7, vi x8, vi x9, vu, vu, vu, vu] [(.int x8), (.int 27), (.ref a12), (.ref a12)])) rfl rfl (hb hby at_863)
  have f126 : Ax Z h125 a12 .char ((RR 65 28 x8).map Value.int) := (by have q := A125; rw [own_rr (by decide) hc8] at q; exact q)
  have f127 := f119.wr W125
  have f128 := f120.wr W125
  have f129 := f121.wr W125
  have f130 := f122.wr W125
  have f131 := f123.wr W125
  have f132 := f124.wr W125
  have Z125 := Nat.le_trans Z117 (Keep.of_wr W125).1
  have N125 := Fr.snoc X125 N117 g12
  refine DoneW.step st125 ?_
  show DoneW p e below s _ _ _ (T125.setTop (mkF m 864 #[vi p1, vi p2, vi p3, vi p4, vi p5, vi x5, vi x6, vi x7, vi x8, vi x9, vu, vu, vu, vu] [(.ref a12)]))
  refine DoneW.step (fun t k => XS.dup X125.here hx rfl (hb hby at_864) rfl rfl k) ?_
  show DoneW p e below s _ _ _ (T125.setTop (mkF m 865 #[vi p1, vi p2, vi p3, vi p4, vi p5, vi x5, vi x6, vi x7, vi x8, vi x9, vu, vu, vu, vu] [(.ref a12), (.ref a12)]))
  refine DoneW.step (fun t k => XS.bipush X125.here hx rfl (hb hby at_865) k) ?_
  show DoneW p e below s _ _ _ (T125.setTop (mkF m 867 #[vi p1, vi p2, vi p3, vi p4, vi p5, vi x5, vi x6, vi x7, vi x8, vi x9, vu, vu, vu, vu] [(.int 28), (.ref a12), (.ref a12)]))
  refine DoneW.step (fun t k => XS.iload X125.here hx rfl (hb hby at_867) rfl k) ?_
  show DoneW p e below s _ _ _ (T125.setTop (mkF m 869 #[vi p1, vi p2, vi p3, vi p4, vi p5, vi x5, vi x6, vi x7, vi x8, vi x9, vu, vu, vu, vu] [(.int x8), (.int 28), (.ref a12), (.ref a12)]))
  obtain ⟨T133, h133, X133, e133, W133, A133, st133⟩ := stoC X125 hx hZ e125 f126 (j := (28 : Int32)) (by decide) (i := 28) (by decide) (by rw [List.length_map, RR.len (by decide)]; decide) (g := (mkF m 869 #[vi p1, vi p2, vi p3, vi p4, vi p5, vi x5, vi x6, vi x7, vi x8, vi x9, vu, vu, vu, vu] [(.int x8), (.int 28), (.ref a12), (.ref a12)])) rfl rfl (hb hby at_869)
  have f134 : Ax Z h133 a12 .char ((RR 65 29 x8).map Value.int) := (by have q := A133; rw [own_rr (by decide) hc8] at q; exact q)
  have f135 := f127.wr W133
  have f136 := f128.wr W133
  have f137 := f129.wr W133
  have f138 := f130.wr W133
  have f139 := f131.wr W133
  have f140 := f132.wr W133
  have Z133 := Nat.le_trans Z125 (Keep.of_wr W133).1
  have N133 := Fr.snoc X133 N125 g12
  refine DoneW.step st133 ?_
  show DoneW p e below s _ _ _ (T133.setTop (mkF m 870 #[vi p1, vi p2, vi p3, vi p4, vi p5, vi x5, vi x6, vi x7, vi x8, vi x9, vu, vu, vu, vu] [(.ref a12)]))
  refine DoneW.step (fun t k => XS.dup X133.here hx rfl (hb hby at_870) rfl rfl k) ?_
  show DoneW p e below s _ _ _ (T133.setTop (mkF m 871 #[vi p1, vi p2, vi p3, vi p4, vi p5, vi x5, vi x6, vi x7, vi x8, vi x9, vu, vu, vu, vu] [(.ref a12), (.ref a12)]))
  refine DoneW.step (fun t k => XS.bipush X133.here hx rfl (hb hby at_871) k) ?_
  show DoneW p e below s _ _ _ (T133.setTop (mkF m 873 #[vi p1, vi p2, vi p3, vi p4, vi p5, vi x5, vi x6, vi x7, vi x8, vi x9, vu, vu, vu, vu] [(.int 29), (.ref a12), (.ref a12)]))
  refine DoneW.step (fun t k => XS.iload X133.here hx rfl (hb hby at_873) rfl k) ?_
  show DoneW p e below s _ _ _ (T133.setTop (mkF m 875 #[vi p1, vi p2, vi p3, vi p4, vi p5, vi x5, vi x6, vi x7, vi x8, vi x9, vu, vu, vu, vu] [(.int x8), (.int 29), (.ref a12), (.ref a12)]))
  obtain ⟨T141, h141, X141, e141, W141, A141, st141⟩ := stoC X133 hx hZ e133 f134 (j := (29 : Int32)) (by decide) (i := 29) (by decide) (by rw [List.length_map, RR.len (by decide)]; decide) (g := (mkF m 875 #[vi p1, vi p2, vi p3, vi p4, vi p5, vi x5, vi x6, vi x7, vi x8, vi x9, vu, vu, vu, vu] [(.int x8), (.int 29), (.ref a12), (.ref a12)])) rfl rfl (hb hby at_875)
  have f142 : Ax Z h141 a12 .char ((RR 65 30 x8).map Value.int) := (by have q := A141; rw [own_rr (by decide) hc8] at q; exact q)
  have f143 := f135.wr W141
  have f144 := f136.wr W141
  have f145 := f137.wr W141
  have f146 := f138.wr W141
  have f147 := f139.wr W141
  have f148 := f140.wr W141
  have Z141 := Nat.le_trans Z133 (Keep.of_wr W141).1
  have N141 := Fr.snoc X141 N133 g12
  refine DoneW.step st141 ?_
  show DoneW p e below s _ _ _ (T141.setTop (mkF m 876 #[vi p1, vi p2, vi p3, vi p4, vi p5, vi x5, vi x6, vi x7, vi x8, vi x9, vu, vu, vu, vu] [(.ref a12)]))
  refine DoneW.step (fun t k => XS.dup X141.here hx rfl (hb hby at_876) rfl rfl k) ?_
  show DoneW p e below s _ _ _ (T141.setTop (mkF m 877 #[vi p1, vi p2, vi p3, vi p4, vi p5, vi x5, vi x6, vi x7, vi x8, vi x9, vu, vu, vu, vu] [(.ref a12), (.ref a12)]))
  refine DoneW.step (fun t k => XS.bipush X141.here hx rfl (hb hby at_877) k) ?_
  show DoneW p e below s _ _ _ (T141.setTop (mkF m 879 #[vi p1, vi p2, vi p3, vi p4, vi p5, vi x5, vi x6, vi x7, vi x8, vi x9, vu, vu, vu, vu] [(.int 30), (.ref a12), (.ref a12)]))
  refine DoneW.step (fun t k => XS.iload X141.here hx rfl (hb hby at_879) rfl k) ?_
  show DoneW p e below s _ _ _ (T141.setTop (mkF m 881 #[vi p1, vi p2, vi p3, vi p4, vi p5, vi x5, vi x6, vi x7, vi x8, vi x9, vu, vu, vu, vu] [(.int x8), (.int 30), (.ref a12), (.ref a12)]))
  obtain ⟨T149, h149, X149, e149, W149, A149, st149⟩ := stoC X141 hx hZ e141 f142 (j := (30 : Int32)) (by decide) (i := 30) (by decide) (by rw [List.length_map, RR.len (by decide)]; decide) (g := (mkF m 881 #[vi p1, vi p2, vi p3, vi p4, vi p5, vi x5, vi x6, vi x7, vi x8, vi x9, vu, vu, vu, vu] [(.int x8), (.int 30), (.ref a12), (.ref a12)])) rfl rfl (hb hby at_881)
  have f150 : Ax Z h149 a12 .char ((RR 65 31 x8).map Value.int) := (by have q := A149; rw [own_rr (by decide) hc8] at q; exact q)
  have f151 := f143.wr W149
  have f152 := f144.wr W149
  have f153 := f145.wr W149
  have f154 := f146.wr W149
  have f155 := f147.wr W149
  have f156 := f148.wr W149
  have Z149 := Nat.le_trans Z141 (Keep.of_wr W149).1
  have N149 := Fr.snoc X149 N141 g12
  refine DoneW.step st149 ?_
  show DoneW p e below s _ _ _ (T149.setTop (mkF m 882 #[vi p1, vi p2, vi p3, vi p4, vi p5, vi x5, vi x6, vi x7, vi x8, vi x9, vu, vu, vu, vu] [(.ref a12)]))
  refine DoneW.step (fun t k => XS.dup X149.here hx rfl (hb hby at_882) rfl rfl k) ?_
  show DoneW p e below s _ _ _ (T149.setTop (mkF m 883 #[vi p1, vi p2, vi p3, vi p4, vi p5, vi x5, vi x6, vi x7, vi x8, vi x9, vu, vu, vu, vu] [(.ref a12), (.ref a12)]))
  refine DoneW.step (fun t k => XS.bipush X149.here hx rfl (hb hby at_883) k) ?_
  show DoneW p e below s _ _ _ (T149.setTop (mkF m 885 #[vi p1, vi p2, vi p3, vi p4, vi p5, vi x5, vi x6, vi x7, vi x8, vi x9, vu, vu, vu, vu] [(.int 31), (.ref a12), (.ref a12)]))
  refine DoneW.step (fun t k => XS.iload X149.here hx rfl (hb hby at_885) rfl k) ?_
  show DoneW p e below s _ _ _ (T149.setTop (mkF m 887 #[vi p1, vi p2, vi p3, vi p4, vi p5, vi x5, vi x6, vi x7, vi x8, vi x9, vu, vu, vu, vu] [(.int x8), (.int 31), (.ref a12), (.ref a12)]))
  obtain ⟨T157, h157, X157, e157, W157, A157, st157⟩ := stoC X149 hx hZ e149 f150 (j := (31 : Int32)) (by decide) (i := 31) (by decide) (by rw [List.length_map, RR.len (by decide)]; decide) (g := (mkF m 887 #[vi p1, vi p2, vi p3, vi p4, vi p5, vi x5, vi x6, vi x7, vi x8, vi x9, vu, vu, vu, vu] [(.int x8), (.int 31), (.ref a12), (.ref a12)])) rfl rfl (hb hby at_887)
  have f158 : Ax Z h157 a12 .char ((RR 65 32 x8).map Value.int) := (by have q := A157; rw [own_rr (by decide) hc8] at q; exact q)
  have f159 := f151.wr W157
  have f160 := f152.wr W157
  have f161 := f153.wr W157
  have f162 := f154.wr W157
  have f163 := f155.wr W157
  have f164 := f156.wr W157
  have Z157 := Nat.le_trans Z149 (Keep.of_wr W157).1
  have N157 := Fr.snoc X157 N149 g12
  refine DoneW.step st157 ?_
  show DoneW p e below s _ _ _ (T157.setTop (mkF m 888 #[vi p1, vi p2, vi p3, vi p4, vi p5, vi x5, vi x6, vi x7, vi x8, vi x9, vu, vu, vu, vu] [(.ref a12)]))
  exact fill888 p1 p2 p3 p4 p5 x5 x6 x7 x8 x9 a12 cs sv X157 hx hZ hw hby hml hown hlk hret hnm N157 Z157 e157 f158 f159 g12 f160 f161 hsv f162 f163 f164 hcs hr5 hr6 hr7 hr8 hc5 hc6 hc7 hc8
set_option maxRecDepth 65536 in
set_option maxHeartbeats 40000000 in
theorem fill792 {p : Program} {l : Launch} {e : Env} {s : State} {m : MethodId} {args : Array Value} {below : List Frame} {meth : Method} {c : Code} {T : State} {locs : List Loc} {Z : State} {a0 : Array Value} {h0 : Heap} {n0 : Nat} (p1 p2 p3 p4 p5 x5 x6 x7 x8 x9 : Int32) (a12 : Addr) (cs : Int32) (sv : Value)
    (X0 : Stand p l e room_1 s m args below meth c T locs 1 65) (hx : p.tables.exec = Jvm.exec) (hZ : Z.Warmed39 s.vm) (hw : HH a0 Z) (hby : c.code = code) (hml : c.maxLocals = 14) (hown : s.vm.findClass "com/example/stowage/stowage/model/NamesIsNamePinLaw" = some m.cls) (hlk : meth.locks = false) (hret : meth.sig.returnType = ret) (hnm : meth.name = "law") (N0 : Fr n0 locs) (Z0 : n0 ≤ h0.size) (e0 : T.heap = h0) (A12 : Ax Z h0 a12 .char ((RR 65 16 x8).map Value.int)) (E12 : Fl4 Z h0 a12) (g12 : n0 ≤ a12) (Scs : Sta Z h0 "java/lang/String" "COMPACT_STRINGS" "Z" (.int cs)) (Ssx : Sta Z h0 "jdk/internal/util/Preconditions" "SIOOBE_FORMATTER" "Ljava/util/function/BiFunction;" sv) (hsv : sv.isRef = true) (Sad : Sta Z h0 "java/lang/StringUTF16" "$assertionsDisabled" "Z" (.int 1)) (Shi : Sta Z h0 "java/lang/StringUTF16" "HI_BYTE_SHIFT" "I" (.int 0)) (Slo : Sta Z h0 "java/lang/StringUTF16" "LO_BYTE_SHIFT" "I" (.int 8)) (hcs : ¬ cs = (0 : Int32)) (hr5 : 0 ≤ x5.toInt ∧ x5.toInt < 65536) (hr6 : 0 ≤ x6.toInt ∧ x6.toInt < 65536) (hr7 : 0 ≤ x7.toInt ∧ x7.toInt < 65536) (hr8 : 0 ≤ x8.toInt ∧ x8.toInt < 65536) (hc5 : nar .char x5 = x5) (hc6 : nar .char x6 = x6) (hc7 : nar .char x7 = x7) (hc8 : nar .char x8 = x8) :
    DoneW p e below s (fun v h L => v = some (.int 1) ∧ Fr n0 L) room_1.cells room_1.slots (T.setTop (mkF m 792 #[vi p1, vi p2, vi p3, vi p4, vi p5, vi x5, vi x6, vi x7, vi x8, vi x9, vu, vu, vu, vu] [(.ref a12)])) := by
  show DoneW p e below s _ _ _ (T.setTop (mkF m 792 #[vi p1, vi p2, vi p3, vi p4, vi p5, vi x5, vi x6, vi x7, vi x8, vi x9, vu, vu, vu, vu] [(.ref a12)]))
  refine DoneW.step (fun t k => XS.dup X0.here hx rfl (hb hby at_792) rfl rfl k) ?_
  show DoneW p e below s _ _ _ (T.setTop (mkF m 793 #[vi p1, vi p2, vi p3, vi p4, vi p5, vi x5, vi x6, vi x7, vi x8, vi x9, vu, vu, vu, vu] [(.ref a12), (.ref a12)]))
  refine DoneW.step (fun t k => XS.bipush X0.here hx rfl (hb hby at_793) k) ?_
  show DoneW p e below s _ _ _ (T.setTop (mkF m 795 #[vi p1, vi p2, vi p3, vi p4, vi p5, vi x5, vi x6, vi x7, vi x8, vi x9, vu, vu, vu, vu] [(.int 16), (.ref a12), (.ref a12)]))
  refine DoneW.step (fun t k => XS.iload X0.here hx rfl (hb hby at_795) rfl k) ?_
  show DoneW p e below s _ _ _ (T.setTop (mkF m 797 #[vi p1, vi p2, vi p3, vi p4, vi p5, vi x5, vi x6, vi x7, vi x8, vi x9, vu, vu, vu, vu] [(.int x8), (.int 16), (.ref a12), (.ref a12)]))
  obtain ⟨T101, h101, X101, e101, W101, A101, st101⟩ := stoC X0 hx hZ e0 A12 (j := (16 : Int32)) (by decide) (i := 16) (by decide) (by rw [List.length_map, RR.len (by decide)]; decide) (g := (mkF m 797 #[vi p1, vi p2, vi p3, vi p4, vi p5, vi x5, vi x6, vi x7, vi x8, vi x9, vu, vu, vu, vu] [(.int x8), (.int 16), (.ref a12), (.ref a12)])) rfl rfl (hb hby at_797)
  have f102 : Ax Z h101 a12 .char ((RR 65 17 x8).map Value.int) := (by have q := A101; rw [own_rr (by decide) hc8] at q; exact q)
  have f103 := E12.wr W101
  have f104 := Scs.wr W101
  have f105 := Ssx.wr W101
  have f106 := Sad.wr W101
  have f107 := Shi.wr W101
  have f108 := Slo.wr W101
  have Z101 := Nat.le_trans Z0 (Keep.of_wr W101).1
  have N101 := Fr.snoc X101 N0 g12
  refine DoneW.step st101 ?_
  show DoneW p e below s _ _ _ (T101.setTop (mkF m 798 #[vi p1, vi p2, vi p3, vi p4, vi p5, vi x5, vi x6, vi x7, vi x8, vi x9, vu, vu, vu, vu] [(.ref a12)]))
  refine DoneW.step (fun t k => XS.dup X101.here hx rfl (hb hby at_798) rfl rfl k) ?_
  show DoneW p e below s _ _ _ (T101.setTop (mkF m 799 #[vi p1, vi p2, vi p3, vi p4, vi p5, vi x5, vi x6, vi x7, vi x8, vi x9, vu, vu, vu, vu] [(.ref a12), (.ref a12)]))
  refine DoneW.step (fun t k => XS.bipush X101.here hx rfl (hb hby at_799) k) ?_
  show DoneW p e below s _ _ _ (T101.setTop (mkF m 801 #[vi p1, vi p2, vi p3, vi p4, vi p5, vi x5, vi x6, vi x7, vi x8, vi x9, vu, vu, vu, vu] [(.int 17), (.ref a12), (.ref a12)]))
  refine DoneW.step (fun t k => XS.iload X101.here hx rfl (hb hby at_801) rfl k) ?_
  show DoneW p e below s _ _ _ (T101.setTop (mkF m 803 #[vi p1, vi p2, vi p3, vi p4, vi p5, vi x5, vi x6, vi x7, vi x8, vi x9, vu, vu, vu, vu] [(.int x8), (.int 17), (.ref a12), (.ref a12)]))
  obtain ⟨T109, h109, X109, e109, W109, A109, st109⟩ := stoC X101 hx hZ e101 f102 (j := (17 : Int32)) (by decide) (i := 17) (by decide) (by rw [List.length_map, RR.len (by decide)]; decide) (g := (mkF m 803 #[vi p1, vi p2, vi p3, vi p4, vi p5, vi x5, vi x6, vi x7, vi x8, vi x9, vu, vu, vu, vu] [(.int x8), (.int 17), (.ref a12), (.ref a12)])) rfl rfl (hb hby at_803)
  have f110 : Ax Z h109 a12 .char ((RR 65 18 x8).map Value.int) := (by have q := A109; rw [own_rr (by decide) hc8] at q; exact q)
  have f111 := f103.wr W109
  have f112 := f104.wr W109
  have f113 := f105.wr W109
  have f114 := f106.wr W109
  have f115 := f107.wr W109
  have f116 := f108.wr W109
  have Z109 := Nat.le_trans Z101 (Keep.of_wr W109).1
  have N109 := Fr.snoc X109 N101 g12
  refine DoneW.step st109 ?_
  show DoneW p e below s _ _ _ (T109.setTop (mkF m 804 #[vi p1, vi p2, vi p3, vi p4, vi p5, vi x5, vi x6, vi x7, vi x8, vi x9, vu, vu, vu, vu] [(.ref a12)]))
  refine DoneW.step (fun t k => XS.dup X109.here hx rfl (hb hby at_804) rfl rfl k) ?_
  show DoneW p e below s _ _ _ (T109.setTop (mkF m 805 #[vi p1, vi p2, vi p3, vi p4, vi p5, vi x5, vi x6, vi x7, vi x8, vi x9, vu, vu, vu, vu] [(.ref a12), (.ref a12)]))
  refine DoneW.step (fun t k => XS.bipush X109.here hx rfl (hb hby at_805) k) ?_
  show DoneW p e below s _ _ _ (T109.setTop (mkF m 807 #[vi p1, vi p2, vi p3, vi p4, vi p5, vi x5, vi x6, vi x7, vi x8, vi x9, vu, vu, vu, vu] [(.int 18), (.ref a12), (.ref a12)]))
  refine DoneW.step (fun t k => XS.iload X109.here hx rfl (hb hby at_807) rfl k) ?_
  show DoneW p e below s _ _ _ (T109.setTop (mkF m 809 #[vi p1, vi p2, vi p3, vi p4, vi p5, vi x5, vi x6, vi x7, vi x8, vi x9, vu, vu, vu, vu] [(.int x8), (.int 18), (.ref a12), (.ref a12)]))
  obtain ⟨T117, h117, X117, e117, W117, A117, st117⟩ := stoC X109 hx hZ e109 f110 (j := (18 : Int32)) (by decide) (i := 18) (by decide) (by rw [List.length_map, RR.len (by decide)]; decide) (g := (mkF m 809 #[vi p1, vi p2, vi p3, vi p4, vi p5, vi x5, vi x6, vi x7, vi x8, vi x9, vu, vu, vu, vu] [(.int x8), (.int 18), (.ref a12), (.ref a12)])) rfl rfl (hb hby at_809)
  have f118 : Ax Z h117 a12 .char ((RR 65 19 x8).map Value.int) := (by have q := A117; rw [own_rr (by decide) hc8] at q; exact q)
  have f119 := f111.wr W117
  have f120 := f112.wr W117
  have f121 := f113.wr W117
  have f122 := f114.wr W117
  have f123 := f115.wr W117
  have f124 := f116.wr W117
  have Z117 := Nat.le_trans Z109 (Keep.of_wr W117).1
  have N117 := Fr.snoc X117 N109 g12
  refine DoneW.step st117 ?_
  show DoneW p e below s _ _ _ (T117.setTop (mkF m 810 #[vi p1, vi p2, vi p3, vi p4, vi p5, vi x5, vi x6, vi x7, vi x8, vi x9, vu, vu, vu, vu] [(.ref a12)]))
  refine DoneW.step (fun t k => XS.dup X117.here hx rfl (hb hby at_810) rfl rfl k) ?_
  show DoneW p e below s _ _ _ (T117.setTop (mkF m 811 #[vi p1, vi p2, vi p3, vi p4, vi p5, vi x5, vi x6, vi x7, vi x8, vi x9, vu, vu, vu, vu] [(.ref a12), (.ref a12)]))
  refine DoneW.step (fun t k => XS.bipush X117.here hx rfl (hb hby at_811) k) ?_
  show DoneW p e below s _ _ _ (T117.setTop (mkF m 813 #[vi p1, vi p2, vi p3, vi p4, vi p5, vi x5, vi x6, vi x7, vi x8, vi x9, vu, vu, vu, vu] [(.int 19), (.ref a12), (.ref a12)]))
  refine DoneW.step (fun t k => XS.iload X117.here hx rfl (hb hby at_813) rfl k) ?_
  show DoneW p e below s _ _ _ (T117.setTop (mkF m 815 #[vi p1, vi p2, vi p3, vi p4, vi p5, vi x5, vi x6, vi x7, vi x8, vi x9, vu, vu, vu, vu] [(.int x8), (.int 19), (.ref a12), (.ref a12)]))
  obtain ⟨T125, h125, X125, e125, W125, A125, st125⟩ := stoC X117 hx hZ e117 f118 (j := (19 : Int32)) (by decide) (i := 19) (by decide) (by rw [List.length_map, RR.len (by decide)]; decide) (g := (mkF m 815 #[vi p1, vi p2, vi p3, vi p4, vi p5, vi x5, vi x6, vi x7, vi x8, vi x9, vu, vu, vu, vu] [(.int x8), (.int 19), (.ref a12), (.ref a12)])) rfl rfl (hb hby at_815)
  have f126 : Ax Z h125 a12 .char ((RR 65 20 x8).map Value.int) := (by have q := A125; rw [own_rr (by decide) hc8] at q; exact q)
  have f127 := f119.wr W125
  have f128 := f120.wr W125
  have f129 := f121.wr W125
  have f130 := f122.wr W125
  have f131 := f123.wr W125
  have f132 := f124.wr W125
  have Z125 := Nat.le_trans Z117 (Keep.of_wr W125).1
  have N125 := Fr.snoc X125 N117 g12
  refine DoneW.step st125 ?_
  show DoneW p e below s _ _ _ (T125.setTop (mkF m 816 #[vi p1, vi p2, vi p3, vi p4, vi p5, vi x5, vi x6, vi x7, vi x8, vi x9, vu, vu, vu, vu] [(.ref a12)]))
  refine DoneW.step (fun t k => XS.dup X125.here hx rfl (hb hby at_816) rfl rfl k) ?_
  show DoneW p e below s _ _ _ (T125.setTop (mkF m 817 #[vi p1, vi p2, vi p3, vi p4, vi p5, vi x5, vi x6, vi x7, vi x8, vi x9, vu, vu, vu, vu] [(.ref a12), (.ref a12)]))
  refine DoneW.step (fun t k => XS.bipush X125.here hx rfl (hb hby at_817) k) ?_
  show DoneW p e below s _ _ _ (T125.setTop (mkF m 819 #[vi p1, vi p2, vi p3, vi p4, vi p5, vi x5, vi x6, vi x7, vi x8, vi x9, vu, vu, vu, vu] [(.int 20), (.ref a12), (.ref a12)]))
  refine DoneW.step (fun t k => XS.iload X125.here hx rfl (hb hby at_819) rfl k) ?_
  show DoneW p e below s _ _ _ (T125.setTop (mkF m 821 #[vi p1, vi p2, vi p3, vi p4, vi p5, vi x5, vi x6, vi x7, vi x8, vi x9, vu, vu, vu, vu] [(.int x8), (.int 20), (.ref a12), (.ref a12)]))
  obtain ⟨T133, h133, X133, e133, W133, A133, st133⟩ := stoC X125 hx hZ e125 f126 (j := (20 : Int32)) (by decide) (i := 20) (by decide) (by rw [List.length_map, RR.len (by decide)]; decide) (g := (mkF m 821 #[vi p1, vi p2, vi p3, vi p4, vi p5, vi x5, vi x6, vi x7, vi x8, vi x9, vu, vu, vu, vu] [(.int x8), (.int 20), (.ref a12), (.ref a12)])) rfl rfl (hb hby at_821)
  have f134 : Ax Z h133 a12 .char ((RR 65 21 x8).map Value.int) := (by have q := A133; rw [own_rr (by decide) hc8] at q; exact q)
  have f135 := f127.wr W133
  have f136 := f128.wr W133
  have f137 := f129.wr W133
  have f138 := f130.wr W133
  have f139 := f131.wr W133
  have f140 := f132.wr W133
  have Z133 := Nat.le_trans Z125 (Keep.of_wr W133).1
  have N133 := Fr.snoc X133 N125 g12
  refine DoneW.step st133 ?_
  show DoneW p e below s _ _ _ (T133.setTop (mkF m 822 #[vi p1, vi p2, vi p3, vi p4, vi p5, vi x5, vi x6, vi x7, vi x8, vi x9, vu, vu, vu, vu] [(.ref a12)]))
  refine DoneW.step (fun t k => XS.dup X133.here hx rfl (hb hby at_822) rfl rfl k) ?_
  show DoneW p e below s _ _ _ (T133.setTop (mkF m 823 #[vi p1, vi p2, vi p3, vi p4, vi p5, vi x5, vi x6, vi x7, vi x8, vi x9, vu, vu, vu, vu] [(.ref a12), (.ref a12)]))
  refine DoneW.step (fun t k => XS.bipush X133.here hx rfl (hb hby at_823) k) ?_
  show DoneW p e below s _ _ _ (T133.setTop (mkF m 825 #[vi p1, vi p2, vi p3, vi p4, vi p5, vi x5, vi x6, vi x7, vi x8, vi x9, vu, vu, vu, vu] [(.int 21), (.ref a12), (.ref a12)]))
  refine DoneW.step (fun t k => XS.iload X133.here hx rfl (hb hby at_825) rfl k) ?_
  show DoneW p e below s _ _ _ (T133.setTop (mkF m 827 #[vi p1, vi p2, vi p3, vi p4, vi p5, vi x5, vi x6, vi x7, vi x8, vi x9, vu, vu, vu, vu] [(.int x8), (.int 21), (.ref a12), (.ref a12)]))
  obtain ⟨T141, h141, X141, e141, W141, A141, st141⟩ := stoC X133 hx hZ e133 f134 (j := (21 : Int32)) (by decide) (i := 21) (by decide) (by rw [List.length_map, RR.len (by decide)]; decide) (g := (mkF m 827 #[vi p1, vi p2, vi p3, vi p4, vi p5, vi x5, vi x6, vi x7, vi x8, vi x9, vu, vu, vu, vu] [(.int x8), (.int 21), (.ref a12), (.ref a12)])) rfl rfl (hb hby at_827)
  have f142 : Ax Z h141 a12 .char ((RR 65 22 x8).map Value.int) := (by have q := A141; rw [own_rr (by decide) hc8] at q; exact q)
  have f143 := f135.wr W141
  have f144 := f136.wr W141
  have f145 := f137.wr W141
  have f146 := f138.wr W141
  have f147 := f139.wr W141
  have f148 := f140.wr W141
  have Z141 := Nat.le_trans Z133 (Keep.of_wr W141).1
  have N141 := Fr.snoc X141 N133 g12
  refine DoneW.step st141 ?_
  show DoneW p e below s _ _ _ (T141.setTop (mkF m 828 #[vi p1, vi p2, vi p3, vi p4, vi p5, vi x5, vi x6, vi x7, vi x8, vi x9, vu, vu, vu, vu] [(.ref a12)]))
  refine DoneW.step (fun t k => XS.dup X141.here hx rfl (hb hby at_828) rfl rfl k) ?_
  show DoneW p e below s _ _ _ (T141.setTop (mkF m 829 #[vi p1, vi p2, vi p3, vi p4, vi p5, vi x5, vi x6, vi x7, vi x8, vi x9, vu, vu, vu, vu] [(.ref a12), (.ref a12)]))
  refine DoneW.step (fun t k => XS.bipush X141.here hx rfl (hb hby at_829) k) ?_
  show DoneW p e below s _ _ _ (T141.setTop (mkF m 831 #[vi p1, vi p2, vi p3, vi p4, vi p5, vi x5, vi x6, vi x7, vi x8, vi x9, vu, vu, vu, vu] [(.int 22), (.ref a12), (.ref a12)]))
  refine DoneW.step (fun t k => XS.iload X141.here hx rfl (hb hby at_831) rfl k) ?_
  show DoneW p e below s _ _ _ (T141.setTop (mkF m 833 #[vi p1, vi p2, vi p3, vi p4, vi p5, vi x5, vi x6, vi x7, vi x8, vi x9, vu, vu, vu, vu] [(.int x8), (.int 22), (.ref a12), (.ref a12)]))
  obtain ⟨T149, h149, X149, e149, W149, A149, st149⟩ := stoC X141 hx hZ e141 f142 (j := (22 : Int32)) (by decide) (i := 22) (by decide) (by rw [List.length_map, RR.len (by decide)]; decide) (g := (mkF m 833 #[vi p1, vi p2, vi p3, vi p4, vi p5, vi x5, vi x6, vi x7, vi x8, vi x9, vu, vu, vu, vu] [(.int x8), (.int 22), (.ref a12), (.ref a12)])) rfl rfl (hb hby at_833)
  have f150 : Ax Z h149 a12 .char ((RR 65 23 x8).map Value.int) := (by have q := A149; rw [own_rr (by decide) hc8] at q; exact q)
  have f151 := f143.wr W149
  have f152 := f144.wr W149
  have f153 := f145.wr W149
  have f154 := f146.wr W149
  have f155 := f147.wr W149
  have f156 := f148.wr W149
  have Z149 := Nat.le_trans Z141 (Keep.of_wr W149).1
  have N149 := Fr.snoc X149 N141 g12
  refine DoneW.step st149 ?_
  show DoneW p e below s _ _ _ (T149.setTop (mkF m 834 #[vi p1, vi p2, vi p3, vi p4, vi p5, vi x5, vi x6, vi x7, vi x8, vi x9, vu, vu, vu, vu] [(.ref a12)]))
  refine DoneW.step (fun t k => XS.dup X149.here hx rfl (hb hby at_834) rfl rfl k) ?_
  show DoneW p e below s _ _ _ (T149.setTop (mkF m 835 #[vi p1, vi p2, vi p3, vi p4, vi p5, vi x5, vi x6, vi x7, vi x8, vi x9, vu, vu, vu, vu] [(.ref a12), (.ref a12)]))
  refine DoneW.step (fun t k => XS.bipush X149.here hx rfl (hb hby at_835) k) ?_
  show DoneW p e below s _ _ _ (T149.setTop (mkF m 837 #[vi p1, vi p2, vi p3, vi p4, vi p5, vi x5, vi x6, vi x7, vi x8, vi x9, vu, vu, vu, vu] [(.int 23), (.ref a12), (.ref a12)]))
  refine DoneW.step (fun t k => XS.iload X149.here hx rfl (hb hby at_837) rfl k) ?_
  show DoneW p e below s _ _ _ (T149.setTop (mkF m 839 #[vi p1, vi p2, vi p3, vi p4, vi p5, vi x5, vi x6, vi x7, vi x8, vi x9, vu, vu, vu, vu] [(.int x8), (.int 23), (.ref a12), (.ref a12)]))
  obtain ⟨T157, h157, X157, e157, W157, A157, st157⟩ := stoC X149 hx hZ e149 f150 (j := (23 : Int32)) (by decide) (i := 23) (by decide) (by rw [List.length_map, RR.len (by decide)]; decide) (g := (mkF m 839 #[vi p1, vi p2, vi p3, vi p4, vi p5, vi x5, vi x6, vi x7, vi x8, vi x9, vu, vu, vu, vu] [(.int x8), (.int 23), (.ref a12), (.ref a12)])) rfl rfl (hb hby at_839)
  have f158 : Ax Z h157 a12 .char ((RR 65 24 x8).map Value.int) := (by have q := A157; rw [own_rr (by decide) hc8] at q; exact q)
  have f159 := f151.wr W157
  have f160 := f152.wr W157
  have f161 := f153.wr W157
  have f162 := f154.wr W157
  have f163 := f155.wr W157
  have f164 := f156.wr W157
  have Z157 := Nat.le_trans Z149 (Keep.of_wr W157).1
  have N157 := Fr.snoc X157 N149 g12
  refine DoneW.step st157 ?_
  show DoneW p e below s _ _ _ (T157.setTop (mkF m 840 #[vi p1, vi p2, vi p3, vi p4, vi p5, vi x5, vi x6, vi x7, vi x8, vi x9, vu, vu, vu, vu] [(.ref a12)]))
  exact fill840 p1 p2 p3 p4 p5 x5 x6 x7 x8 x9 a12 cs sv X157 hx hZ hw hby hml hown hlk hret hnm N157 Z157 e157 f158 f159 g12 f160 f161 hsv f162 f163 f164 hcs hr5 hr6 hr7 hr8 hc5 hc6 hc7 hc8
set_option maxRecDepth 65536 in
set_option maxHeartbeats 40000000 in
theorem fill744 {p : Program} {l : Launch} {e : Env} {s : State} {m : MethodId} {args : Array Value} {below : List Frame} {meth : Method} {c : Code} {T : State} {locs : List Loc} {Z : State} {a0 : Array Value} {h0 : Heap} {n0 : Nat} (p1 p2 p3 p4 p5 x5 x6 x7 x8 x9 : Int32) (a12 : Addr) (cs : Int32) (sv : Value)
    (X0 : Stand p l e room_1 s m args below meth c T locs 1 65) (hx : p.tables.exec = Jvm.exec) (hZ : Z.Warmed39 s.vm) (hw : HH a0 Z) (hby : c.code = code) (hml : c.maxLocals = 14) (hown : s.vm.findClass "com/example/stowage/stowage/model/NamesIsNamePinLaw" = some m.cls) (hlk : meth.locks = false) (hret : meth.sig.returnType = ret) (hnm : meth.name = "law") (N0 : Fr n0 locs) (Z0 : n0 ≤ h0.size) (e0 : T.heap = h0) (A12 : Ax Z h0 a12 .char ((RR 65 8 x8).map Value.int)) (E12 : Fl4 Z h0 a12) (g12 : n0 ≤ a12) (Scs : Sta Z h0 "java/lang/String" "COMPACT_STRINGS" "Z" (.int cs)) (Ssx : Sta Z h0 "jdk/internal/util/Preconditions" "SIOOBE_FORMATTER" "Ljava/util/function/BiFunction;" sv) (hsv : sv.isRef = true) (Sad : Sta Z h0 "java/lang/StringUTF16" "$assertionsDisabled" "Z" (.int 1)) (Shi : Sta Z h0 "java/lang/StringUTF16" "HI_BYTE_SHIFT" "I" (.int 0)) (Slo : Sta Z h0 "java/lang/StringUTF16" "LO_BYTE_SHIFT" "I" (.int 8)) (hcs : ¬ cs = (0 : Int32)) (hr5 : 0 ≤ x5.toInt ∧ x5.toInt < 65536) (hr6 : 0 ≤ x6.toInt ∧ x6.toInt < 65536) (hr7 : 0 ≤ x7.toInt ∧ x7.toInt < 65536) (hr8 : 0 ≤ x8.toInt ∧ x8.toInt < 65536) (hc5 : nar .char x5 = x5) (hc6 : nar .char x6 = x6) (hc7 : nar .char x7 = x7) (hc8 : nar .char x8 = x8) :
    DoneW p e below s (fun v h L => v = some (.int 1) ∧ Fr n0 L) room_1.cells room_1.slots (T.setTop (mkF m 744 #[vi p1, vi p2, vi p3, vi p4, vi p5, vi x5, vi x6, vi x7, vi x8, vi x9, vu, vu, vu, vu] [(.ref a12)])) := by
  show DoneW p e below s _ _ _ (T.setTop (mkF m 744 #[vi p1, vi p2, vi p3, vi p4, vi p5, vi x5, vi x6, vi x7, vi x8, vi x9, vu, vu, vu, vu] [(.ref a12)]))
  refine DoneW.step (fun t k => XS.dup X0.here hx rfl (hb hby at_744) rfl rfl k) ?_
  show DoneW p e below s _ _ _ (T.setTop (mkF m 745 #[vi p1, vi p2, vi p3, vi p4, vi p5, vi x5, vi x6, vi x7, vi x8, vi x9, vu, vu, vu, vu] [(.ref a12), (.ref a12)]))
  refine DoneW.step (fun t k => XS.bipush X0.here hx rfl (hb hby at_745) k) ?_
  show DoneW p e below s _ _ _ (T.setTop (mkF m 747 #[vi p1, vi p2, vi p3, vi p4, vi p5, vi x5, vi x6, vi x7, vi x8, vi x9, vu, vu, vu, vu] [(.int 8), (.ref a12), (.ref a12)]))
  refine DoneW.step (fun t k => XS.iload X0.here hx rfl (hb hby at_747) rfl k) ?_
  show DoneW p e below s _ _ _ (T.setTop (mkF m 749 #[vi p1, vi p2, vi p3, vi p4, vi p5, vi x5, vi x6, vi x7, vi x8, vi x9, vu, vu, vu, vu] [(.int x8), (.int 8), (.ref a12), (.ref a12)]))
  obtain ⟨T101, h101, X101, e101, W101, A101, st101⟩ := stoC X0 hx hZ e0 A12 (j := (8 : Int32)) (by decide) (i := 8) (by decide) (by rw [List.length_map, RR.len (by decide)]; decide) (g := (mkF m 749 #[vi p1, vi p2, vi p3, vi p4, vi p5, vi x5, vi x6, vi x7, vi x8, vi x9, vu, vu, vu, vu] [(.int x8), (.int 8), (.ref a12), (.ref a12)])) rfl rfl (hb hby at_749)
  have f102 : Ax Z h101 a12 .char ((RR 65 9 x8).map Value.int) := (by have q := A101; rw [own_rr (by decide) hc8] at q; exact q)
  have f103 := E12.wr W101
  have f104 := Scs.wr W101
  have f105 := Ssx.wr W101
  have f106 := Sad.wr W101
  have f107 := Shi.wr W101
  have f108 := Slo.wr W101
  have Z101 := Nat.le_trans Z0 (Keep.of_wr W101).1
  have N101 := Fr.snoc X101 N0 g12
  refine DoneW.step st101 ?_
  show DoneW p e below s _ _ _ (T101.setTop (mkF m 750 #[vi p1, vi p2, vi p3, vi p4, vi p5, vi x5, vi x6, vi x7, vi x8, vi x9, vu, vu, vu, vu] [(.ref a12)]))
  refine DoneW.step (fun t k => XS.dup X101.here hx rfl (hb hby at_750) rfl rfl k) ?_
  show DoneW p e below s _ _ _ (T101.setTop (mkF m 751 #[vi p1, vi p2, vi p3, vi p4, vi p5, vi x5, vi x6, vi x7, vi x8, vi x9, vu, vu, vu, vu] [(.ref a12), (.ref a12)]))
  refine DoneW.step (fun t k => XS.bipush X101.here hx rfl (hb hby at_751) k) ?_
  show DoneW p e below s _ _ _ (T101.setTop (mkF m 753 #[vi p1, vi p2, vi p3, vi p4, vi p5, vi x5, vi x6, vi x7, vi x8, vi x9, vu, vu, vu, vu] [(.int 9), (.ref a12), (.ref a12)]))
  refine DoneW.step (fun t k => XS.iload X101.here hx rfl (hb hby at_753) rfl k) ?_
  show DoneW p e below s _ _ _ (T101.setTop (mkF m 755 #[vi p1, vi p2, vi p3, vi p4, vi p5, vi x5, vi x6, vi x7, vi x8, vi x9, vu, vu, vu, vu] [(.int x8), (.int 9), (.ref a12), (.ref a12)]))
  obtain ⟨T109, h109, X109, e109, W109, A109, st109⟩ := stoC X101 hx hZ e101 f102 (j := (9 : Int32)) (by decide) (i := 9) (by decide) (by rw [List.length_map, RR.len (by decide)]; decide) (g := (mkF m 755 #[vi p1, vi p2, vi p3, vi p4, vi p5, vi x5, vi x6, vi x7, vi x8, vi x9, vu, vu, vu, vu] [(.int x8), (.int 9), (.ref a12), (.ref a12)])) rfl rfl (hb hby at_755)
  have f110 : Ax Z h109 a12 .char ((RR 65 10 x8).map Value.int) := (by have q := A109; rw [own_rr (by decide) hc8] at q; exact q)
  have f111 := f103.wr W109
  have f112 := f104.wr W109
  have f113 := f105.wr W109
  have f114 := f106.wr W109
  have f115 := f107.wr W109
  have f116 := f108.wr W109
  have Z109 := Nat.le_trans Z101 (Keep.of_wr W109).1
  have N109 := Fr.snoc X109 N101 g12
  refine DoneW.step st109 ?_
  show DoneW p e below s _ _ _ (T109.setTop (mkF m 756 #[vi p1, vi p2, vi p3, vi p4, vi p5, vi x5, vi x6, vi x7, vi x8, vi x9, vu, vu, vu, vu] [(.ref a12)]))
  refine DoneW.step (fun t k => XS.dup X109.here hx rfl (hb hby at_756) rfl rfl k) ?_
  show DoneW p e below s _ _ _ (T109.setTop (mkF m 757 #[vi p1, vi p2, vi p3, vi p4, vi p5, vi x5, vi x6, vi x7, vi x8, vi x9, vu, vu, vu, vu] [(.ref a12), (.ref a12)]))
  refine DoneW.step (fun t k => XS.bipush X109.here hx rfl (hb hby at_757) k) ?_
  show DoneW p e below s _ _ _ (T109.setTop (mkF m 759 #[vi p1, vi p2, vi p3, vi p4, vi p5, vi x5, vi x6, vi x7, vi x8, vi x9, vu, vu, vu, vu] [(.int 10), (.ref a12), (.ref a12)]))
  refine DoneW.step (fun t k => XS.iload X109.here hx rfl (hb hby at_759) rfl k) ?_
  show DoneW p e below s _ _ _ (T109.setTop (mkF m 761 #[vi p1, vi p2, vi p3, vi p4, vi p5, vi x5, vi x6, vi x7, vi x8, vi x9, vu, vu, vu, vu] [(.int x8), (.int 10), (.ref a12), (.ref a12)]))
  obtain ⟨T117, h117, X117, e117, W117, A117, st117⟩ := stoC X109 hx hZ e109 f110 (j := (10 : Int32)) (by decide) (i := 10) (by decide) (by rw [List.length_map, RR.len (by decide)]; decide) (g := (mkF m 761 #[vi p1, vi p2, vi p3, vi p4, vi p5, vi x5, vi x6, vi x7, vi x8, vi x9, vu, vu, vu, vu] [(.int x8), (.int 10), (.ref a12), (.ref a12)])) rfl rfl (hb hby at_761)
  have f118 : Ax Z h117 a12 .char ((RR 65 11 x8).map Value.int) := (by have q := A117; rw [own_rr (by decide) hc8] at q; exact q)
  have f119 := f111.wr W117
  have f120 := f112.wr W117
  have f121 := f113.wr W117
  have f122 := f114.wr W117
  have f123 := f115.wr W117
  have f124 := f116.wr W117
  have Z117 := Nat.le_trans Z109 (Keep.of_wr W117).1
  have N117 := Fr.snoc X117 N109 g12
  refine DoneW.step st117 ?_
  show DoneW p e below s _ _ _ (T117.setTop (mkF m 762 #[vi p1, vi p2, vi p3, vi p4, vi p5, vi x5, vi x6, vi x7, vi x8, vi x9, vu, vu, vu, vu] [(.ref a12)]))
  refine DoneW.step (fun t k => XS.dup X117.here hx rfl (hb hby at_762) rfl rfl k) ?_
  show DoneW p e below s _ _ _ (T117.setTop (mkF m 763 #[vi p1, vi p2, vi p3, vi p4, vi p5, vi x5, vi x6, vi x7, vi x8, vi x9, vu, vu, vu, vu] [(.ref a12), (.ref a12)]))
  refine DoneW.step (fun t k => XS.bipush X117.here hx rfl (hb hby at_763) k) ?_
  show DoneW p e below s _ _ _ (T117.setTop (mkF m 765 #[vi p1, vi p2, vi p3, vi p4, vi p5, vi x5, vi x6, vi x7, vi x8, vi x9, vu, vu, vu, vu] [(.int 11), (.ref a12), (.ref a12)]))
  refine DoneW.step (fun t k => XS.iload X117.here hx rfl (hb hby at_765) rfl k) ?_
  show DoneW p e below s _ _ _ (T117.setTop (mkF m 767 #[vi p1, vi p2, vi p3, vi p4, vi p5, vi x5, vi x6, vi x7, vi x8, vi x9, vu, vu, vu, vu] [(.int x8), (.int 11), (.ref a12), (.ref a12)]))
  obtain ⟨T125, h125, X125, e125, W125, A125, st125⟩ := stoC X117 hx hZ e117 f118 (j := (11 : Int32)) (by decide) (i := 11) (by decide) (by rw [List.length_map, RR.len (by decide)]; decide) (g := (mkF m 767 #[vi p1, vi p2, vi p3, vi p4, vi p5, vi x5, vi x6, vi x7, vi x8, vi x9, vu, vu, vu, vu] [(.int x8), (.int 11), (.ref a12), (.ref a12)])) rfl rfl (hb hby at_767)
  have f126 : Ax Z h125 a12 .char ((RR 65 12 x8).map Value.int) := (by have q := A125; rw [own_rr (by decide) hc8] at q; exact q)
  have f127 := f119.wr W125
  have f128 := f120.wr W125
  have f129 := f121.wr W125
  have f130 := f122.wr W125
  have f131 := f123.wr W125
  have f132 := f124.wr W125
  have Z125 := Nat.le_trans Z117 (Keep.of_wr W125).1
  have N125 := Fr.snoc X125 N117 g12
  refine DoneW.step st125 ?_
  show DoneW p e below s _ _ _ (T125.setTop (mkF m 768 #[vi p1, vi p2, vi p3, vi p4, vi p5, vi x5, vi x6, vi x7, vi x8, vi x9, vu, vu, vu, vu] [(.ref a12)]))
  refine DoneW.step (fun t k => XS.dup X125.here hx rfl (hb hby at_768) rfl rfl k) ?_
  show DoneW p e below s _ _ _ (T125.setTop (mkF m 769 #[vi p1, vi p2, vi p3, vi p4, vi p5, vi x5, vi x6, vi x7, vi x8, vi x9, vu, vu, vu, vu] [(.ref a12), (.ref a12)]))
  refine DoneW.step (fun t k => XS.bipush X125.here hx rfl (hb hby at_769) k) ?_
  show DoneW p e below s _ _ _ (T125.setTop (mkF m 771 #[vi p1, vi p2, vi p3, vi p4, vi p5, vi x5, vi x6, vi x7, vi x8, vi x9, vu, vu, vu, vu] [(.int 12), (.ref a12), (.ref a12)]))
  refine DoneW.step (fun t k => XS.iload X125.here hx rfl (hb hby at_771) rfl k) ?_
  show DoneW p e below s _ _ _ (T125.setTop (mkF m 773 #[vi p1, vi p2, vi p3, vi p4, vi p5, vi x5, vi x6, vi x7, vi x8, vi x9, vu, vu, vu, vu] [(.int x8), (.int 12), (.ref a12), (.ref a12)]))
  obtain ⟨T133, h133, X133, e133, W133, A133, st133⟩ := stoC X125 hx hZ e125 f126 (j := (12 : Int32)) (by decide) (i := 12) (by decide) (by rw [List.length_map, RR.len (by decide)]; decide) (g := (mkF m 773 #[vi p1, vi p2, vi p3, vi p4, vi p5, vi x5, vi x6, vi x7, vi x8, vi x9, vu, vu, vu, vu] [(.int x8), (.int 12), (.ref a12), (.ref a12)])) rfl rfl (hb hby at_773)
  have f134 : Ax Z h133 a12 .char ((RR 65 13 x8).map Value.int) := (by have q := A133; rw [own_rr (by decide) hc8] at q; exact q)
  have f135 := f127.wr W133
  have f136 := f128.wr W133
  have f137 := f129.wr W133
  have f138 := f130.wr W133
  have f139 := f131.wr W133
  have f140 := f132.wr W133
  have Z133 := Nat.le_trans Z125 (Keep.of_wr W133).1
  have N133 := Fr.snoc X133 N125 g12
  refine DoneW.step st133 ?_
  show DoneW p e below s _ _ _ (T133.setTop (mkF m 774 #[vi p1, vi p2, vi p3, vi p4, vi p5, vi x5, vi x6, vi x7, vi x8, vi x9, vu, vu, vu, vu] [(.ref a12)]))
  refine DoneW.step (fun t k => XS.dup X133.here hx rfl (hb hby at_774) rfl rfl k) ?_
  show DoneW p e below s _ _ _ (T133.setTop (mkF m 775 #[vi p1, vi p2, vi p3, vi p4, vi p5, vi x5, vi x6, vi x7, vi x8, vi x9, vu, vu, vu, vu] [(.ref a12), (.ref a12)]))
  refine DoneW.step (fun t k => XS.bipush X133.here hx rfl (hb hby at_775) k) ?_
  show DoneW p e below s _ _ _ (T133.setTop (mkF m 777 #[vi p1, vi p2, vi p3, vi p4, vi p5, vi x5, vi x6, vi x7, vi x8, vi x9, vu, vu, vu, vu] [(.int 13), (.ref a12), (.ref a12)]))
  refine DoneW.step (fun t k => XS.iload X133.here hx rfl (hb hby at_777) rfl k) ?_
  show DoneW p e below s _ _ _ (T133.setTop (mkF m 779 #[vi p1, vi p2, vi p3, vi p4, vi p5, vi x5, vi x6, vi x7, vi x8, vi x9, vu, vu, vu, vu] [(.int x8), (.int 13), (.ref a12), (.ref a12)]))
  obtain ⟨T141, h141, X141, e141, W141, A141, st141⟩ := stoC X133 hx hZ e133 f134 (j := (13 : Int32)) (by decide) (i := 13) (by decide) (by rw [List.length_map, RR.len (by decide)]; decide) (g := (mkF m 779 #[vi p1, vi p2, vi p3, vi p4, vi p5, vi x5, vi x6, vi x7, vi x8, vi x9, vu, vu, vu, vu] [(.int x8), (.int 13), (.ref a12), (.ref a12)])) rfl rfl (hb hby at_779)
  have f142 : Ax Z h141 a12 .char ((RR 65 14 x8).map Value.int) := (by have q := A141; rw [own_rr (by decide) hc8] at q; exact q)
  have f143 := f135.wr W141
  have f144 := f136.wr W141
  have f145 := f137.wr W141
  have f146 := f138.wr W141
  have f147 := f139.wr W141
  have f148 := f140.wr W141
  have Z141 := Nat.le_trans Z133 (Keep.of_wr W141).1
  have N141 := Fr.snoc X141 N133 g12
  refine DoneW.step st141 ?_
  show DoneW p e below s _ _ _ (T141.setTop (mkF m 780 #[vi p1, vi p2, vi p3, vi p4, vi p5, vi x5, vi x6, vi x7, vi x8, vi x9, vu, vu, vu, vu] [(.ref a12)]))
  refine DoneW.step (fun t k => XS.dup X141.here hx rfl (hb hby at_780) rfl rfl k) ?_
  show DoneW p e below s _ _ _ (T141.setTop (mkF m 781 #[vi p1, vi p2, vi p3, vi p4, vi p5, vi x5, vi x6, vi x7, vi x8, vi x9, vu, vu, vu, vu] [(.ref a12), (.ref a12)]))
  refine DoneW.step (fun t k => XS.bipush X141.here hx rfl (hb hby at_781) k) ?_
  show DoneW p e below s _ _ _ (T141.setTop (mkF m 783 #[vi p1, vi p2, vi p3, vi p4, vi p5, vi x5, vi x6, vi x7, vi x8, vi x9, vu, vu, vu, vu] [(.int 14), (.ref a12), (.ref a12)]))
  refine DoneW.step (fun t k => XS.iload X141.here hx rfl (hb hby at_783) rfl k) ?_
  show DoneW p e below s _ _ _ (T141.setTop (mkF m 785 #[vi p1, vi p2, vi p3, vi p4, vi p5, vi x5, vi x6, vi x7, vi x8, vi x9, vu, vu, vu, vu] [(.int x8), (.int 14), (.ref a12), (.ref a12)]))
  obtain ⟨T149, h149, X149, e149, W149, A149, st149⟩ := stoC X141 hx hZ e141 f142 (j := (14 : Int32)) (by decide) (i := 14) (by decide) (by rw [List.length_map, RR.len (by decide)]; decide) (g := (mkF m 785 #[vi p1, vi p2, vi p3, vi p4, vi p5, vi x5, vi x6, vi x7, vi x8, vi x9, vu, vu, vu, vu] [(.int x8), (.int 14), (.ref a12), (.ref a12)])) rfl rfl (hb hby at_785)
  have f150 : Ax Z h149 a12 .char ((RR 65 15 x8).map Value.int) := (by have q := A149; rw [own_rr (by decide) hc8] at q; exact q)
  have f151 := f143.wr W149
  have f152 := f144.wr W149
  have f153 := f145.wr W149
  have f154 := f146.wr W149
  have f155 := f147.wr W149
  have f156 := f148.wr W149
  have Z149 := Nat.le_trans Z141 (Keep.of_wr W149).1
  have N149 := Fr.snoc X149 N141 g12
  refine DoneW.step st149 ?_
  show DoneW p e below s _ _ _ (T149.setTop (mkF m 786 #[vi p1, vi p2, vi p3, vi p4, vi p5, vi x5, vi x6, vi x7, vi x8, vi x9, vu, vu, vu, vu] [(.ref a12)]))
  refine DoneW.step (fun t k => XS.dup X149.here hx rfl (hb hby at_786) rfl rfl k) ?_
  show DoneW p e below s _ _ _ (T149.setTop (mkF m 787 #[vi p1, vi p2, vi p3, vi p4, vi p5, vi x5, vi x6, vi x7, vi x8, vi x9, vu, vu, vu, vu] [(.ref a12), (.ref a12)]))
  refine DoneW.step (fun t k => XS.bipush X149.here hx rfl (hb hby at_787) k) ?_
  show DoneW p e below s _ _ _ (T149.setTop (mkF m 789 #[vi p1, vi p2, vi p3, vi p4, vi p5, vi x5, vi x6, vi x7, vi x8, vi x9, vu, vu, vu, vu] [(.int 15), (.ref a12), (.ref a12)]))
  refine DoneW.step (fun t k => XS.iload X149.here hx rfl (hb hby at_789) rfl k) ?_
  show DoneW p e below s _ _ _ (T149.setTop (mkF m 791 #[vi p1, vi p2, vi p3, vi p4, vi p5, vi x5, vi x6, vi x7, vi x8, vi x9, vu, vu, vu, vu] [(.int x8), (.int 15), (.ref a12), (.ref a12)]))
  obtain ⟨T157, h157, X157, e157, W157, A157, st157⟩ := stoC X149 hx hZ e149 f150 (j := (15 : Int32)) (by decide) (i := 15) (by decide) (by rw [List.length_map, RR.len (by decide)]; decide) (g := (mkF m 791 #[vi p1, vi p2, vi p3, vi p4, vi p5, vi x5, vi x6, vi x7, vi x8, vi x9, vu, vu, vu, vu] [(.int x8), (.int 15), (.ref a12), (.ref a12)])) rfl rfl (hb hby at_791)
  have f158 : Ax Z h157 a12 .char ((RR 65 16 x8).map Value.int) := (by have q := A157; rw [own_rr (by decide) hc8] at q; exact q)
  have f159 := f151.wr W157
  have f160 := f152.wr W157
  have f161 := f153.wr W157
  have f162 := f154.wr W157
  have f163 := f155.wr W157
  have f164 := f156.wr W157
  have Z157 := Nat.le_trans Z149 (Keep.of_wr W157).1
  have N157 := Fr.snoc X157 N149 g12
  refine DoneW.step st157 ?_
  show DoneW p e below s _ _ _ (T157.setTop (mkF m 792 #[vi p1, vi p2, vi p3, vi p4, vi p5, vi x5, vi x6, vi x7, vi x8, vi x9, vu, vu, vu, vu] [(.ref a12)]))
  exact fill792 p1 p2 p3 p4 p5 x5 x6 x7 x8 x9 a12 cs sv X157 hx hZ hw hby hml hown hlk hret hnm N157 Z157 e157 f158 f159 g12 f160 f161 hsv f162 f163 f164 hcs hr5 hr6 hr7 hr8 hc5 hc6 hc7 hc8
set_option maxRecDepth 65536 in
set_option maxHeartbeats 40000000 in
theorem fill702 {p : Program} {l : Launch} {e : Env} {s : State} {m : MethodId} {args : Array Value} {below : List Frame} {meth : Method} {c : Code} {T : State} {locs : List Loc} {Z : State} {a0 : Array Value} {h0 : Heap} {n0 : Nat} (p1 p2 p3 p4 p5 x5 x6 x7 x8 x9 : Int32) (a12 : Addr) (cs : Int32) (sv : Value)
    (X0 : Stand p l e room_1 s m args below meth c T locs 1 65) (hx : p.tables.exec = Jvm.exec) (hZ : Z.Warmed39 s.vm) (hw : HH a0 Z) (hby : c.code = code) (hml : c.maxLocals = 14) (hown : s.vm.findClass "com/example/stowage/stowage/model/NamesIsNamePinLaw" = some m.cls) (hlk : meth.locks = false) (hret : meth.sig.returnType = ret) (hnm : meth.name = "law") (N0 : Fr n0 locs) (Z0 : n0 ≤ h0.size) (e0 : T.heap = h0) (A12 : Ax Z h0 a12 .char ((RR 65 0 x8).map Value.int)) (E12 : Fl4 Z h0 a12) (g12 : n0 ≤ a12) (Scs : Sta Z h0 "java/lang/String" "COMPACT_STRINGS" "Z" (.int cs)) (Ssx : Sta Z h0 "jdk/internal/util/Preconditions" "SIOOBE_FORMATTER" "Ljava/util/function/BiFunction;" sv) (hsv : sv.isRef = true) (Sad : Sta Z h0 "java/lang/StringUTF16" "$assertionsDisabled" "Z" (.int 1)) (Shi : Sta Z h0 "java/lang/StringUTF16" "HI_BYTE_SHIFT" "I" (.int 0)) (Slo : Sta Z h0 "java/lang/StringUTF16" "LO_BYTE_SHIFT" "I" (.int 8)) (hcs : ¬ cs = (0 : Int32)) (hr5 : 0 ≤ x5.toInt ∧ x5.toInt < 65536) (hr6 : 0 ≤ x6.toInt ∧ x6.toInt < 65536) (hr7 : 0 ≤ x7.toInt ∧ x7.toInt < 65536) (hr8 : 0 ≤ x8.toInt ∧ x8.toInt < 65536) (hc5 : nar .char x5 = x5) (hc6 : nar .char x6 = x6) (hc7 : nar .char x7 = x7) (hc8 : nar .char x8 = x8) :
    DoneW p e below s (fun v h L => v = some (.int 1) ∧ Fr n0 L) room_1.cells room_1.slots (T.setTop (mkF m 702 #[vi p1, vi p2, vi p3, vi p4, vi p5, vi x5, vi x6, vi x7, vi x8, vi x9, vu, vu, vu, vu] [(.ref a12)])) := by
  show DoneW p e below s _ _ _ (T.setTop (mkF m 702 #[vi p1, vi p2, vi p3, vi p4, vi p5, vi x5, vi x6, vi x7, vi x8, vi x9, vu, vu, vu, vu] [(.ref a12)]))
  refine DoneW.step (fun t k => XS.dup X0.here hx rfl (hb hby at_702) rfl rfl k) ?_
  show DoneW p e below s _ _ _ (T.setTop (mkF m 703 #[vi p1, vi p2, vi p3, vi p4, vi p5, vi x5, vi x6, vi x7, vi x8, vi x9, vu, vu, vu, vu] [(.ref a12), (.ref a12)]))
  refine DoneW.step (fun t k => XS.iconst X0.here hx rfl (hb hby at_703) k) ?_
  show DoneW p e below s _ _ _ (T.setTop (mkF m 704 #[vi p1, vi p2, vi p3, vi p4, vi p5, vi x5, vi x6, vi x7, vi x8, vi x9, vu, vu, vu, vu] [(.int 0), (.ref a12), (.ref a12)]))
  refine DoneW.step (fun t k => XS.iload X0.here hx rfl (hb hby at_704) rfl k) ?_
  show DoneW p e below s _ _ _ (T.setTop (mkF m 706 #[vi p1, vi p2, vi p3, vi p4, vi p5, vi x5, vi x6, vi x7, vi x8, vi x9, vu, vu, vu, vu] [(.int x8), (.int 0), (.ref a12), (.ref a12)]))
  obtain ⟨T101, h101, X101, e101, W101, A101, st101⟩ := stoC X0 hx hZ e0 A12 (j := (0 : Int32)) (by decide) (i := 0) (by decide) (by rw [List.length_map, RR.len (by decide)]; decide) (g := (mkF m 706 #[vi p1, vi p2, vi p3, vi p4, vi p5, vi x5, vi x6, vi x7, vi x8, vi x9, vu, vu, vu, vu] [(.int x8), (.int 0), (.ref a12), (.ref a12)])) rfl rfl (hb hby at_706)
  have f102 : Ax Z h101 a12 .char ((RR 65 1 x8).map Value.int) := (by have q := A101; rw [own_rr (by decide) hc8] at q; exact q)
  have f103 := E12.wr W101
  have f104 := Scs.wr W101
  have f105 := Ssx.wr W101
  have f106 := Sad.wr W101
  have f107 := Shi.wr W101
  have f108 := Slo.wr W101
  have Z101 := Nat.le_trans Z0 (Keep.of_wr W101).1
  have N101 := Fr.snoc X101 N0 g12
  refine DoneW.step st101 ?_
  show DoneW p e below s _ _ _ (T101.setTop (mkF m 707 #[vi p1, vi p2, vi p3, vi p4, vi p5, vi x5, vi x6, vi x7, vi x8, vi x9, vu, vu, vu, vu] [(.ref a12)]))
  refine DoneW.step (fun t k => XS.dup X101.here hx rfl (hb hby at_707) rfl rfl k) ?_
  show DoneW p e below s _ _ _ (T101.setTop (mkF m 708 #[vi p1, vi p2, vi p3, vi p4, vi p5, vi x5, vi x6, vi x7, vi x8, vi x9, vu, vu, vu, vu] [(.ref a12), (.ref a12)]))
  refine DoneW.step (fun t k => XS.iconst X101.here hx rfl (hb hby at_708) k) ?_
  show DoneW p e below s _ _ _ (T101.setTop (mkF m 709 #[vi p1, vi p2, vi p3, vi p4, vi p5, vi x5, vi x6, vi x7, vi x8, vi x9, vu, vu, vu, vu] [(.int 1), (.ref a12), (.ref a12)]))
  refine DoneW.step (fun t k => XS.iload X101.here hx rfl (hb hby at_709) rfl k) ?_
  show DoneW p e below s _ _ _ (T101.setTop (mkF m 711 #[vi p1, vi p2, vi p3, vi p4, vi p5, vi x5, vi x6, vi x7, vi x8, vi x9, vu, vu, vu, vu] [(.int x8), (.int 1), (.ref a12), (.ref a12)]))
  obtain ⟨T109, h109, X109, e109, W109, A109, st109⟩ := stoC X101 hx hZ e101 f102 (j := (1 : Int32)) (by decide) (i := 1) (by decide) (by rw [List.length_map, RR.len (by decide)]; decide) (g := (mkF m 711 #[vi p1, vi p2, vi p3, vi p4, vi p5, vi x5, vi x6, vi x7, vi x8, vi x9, vu, vu, vu, vu] [(.int x8), (.int 1), (.ref a12), (.ref a12)])) rfl rfl (hb hby at_711)
  have f110 : Ax Z h109 a12 .char ((RR 65 2 x8).map Value.int) := (by have q := A109; rw [own_rr (by decide) hc8] at q; exact q)
  have f111 := f103.wr W109
  have f112 := f104.wr W109
  have f113 := f105.wr W109
  have f114 := f106.wr W109
  have f115 := f107.wr W109
  have f116 := f108.wr W109
  have Z109 := Nat.le_trans Z101 (Keep.of_wr W109).1
  have N109 := Fr.snoc X109 N101 g12
  refine DoneW.step st109 ?_
  show DoneW p e below s _ _ _ (T109.setTop (mkF m 712 #[vi p1, vi p2, vi p3, vi p4, vi p5, vi x5, vi x6, vi x7, vi x8, vi x9, vu, vu, vu, vu] [(.ref a12)]))
  refine DoneW.step (fun t k => XS.dup X109.here hx rfl (hb hby at_712) rfl rfl k) ?_
  show DoneW p e below s _ _ _ (T109.setTop (mkF m 713 #[vi p1, vi p2, vi p3, vi p4, vi p5, vi x5, vi x6, vi x7, vi x8, vi x9, vu, vu, vu, vu] [(.ref a12), (.ref a12)]))
  refine DoneW.step (fun t k => XS.iconst X109.here hx rfl (hb hby at_713) k) ?_
  show DoneW p e below s _ _ _ (T109.setTop (mkF m 714 #[vi p1, vi p2, vi p3, vi p4, vi p5, vi x5, vi x6, vi x7, vi x8, vi x9, vu, vu, vu, vu] [(.int 2), (.ref a12), (.ref a12)]))
  refine DoneW.step (fun t k => XS.iload X109.here hx rfl (hb hby at_714) rfl k) ?_
  show DoneW p e below s _ _ _ (T109.setTop (mkF m 716 #[vi p1, vi p2, vi p3, vi p4, vi p5, vi x5, vi x6, vi x7, vi x8, vi x9, vu, vu, vu, vu] [(.int x8), (.int 2), (.ref a12), (.ref a12)]))
  obtain ⟨T117, h117, X117, e117, W117, A117, st117⟩ := stoC X109 hx hZ e109 f110 (j := (2 : Int32)) (by decide) (i := 2) (by decide) (by rw [List.length_map, RR.len (by decide)]; decide) (g := (mkF m 716 #[vi p1, vi p2, vi p3, vi p4, vi p5, vi x5, vi x6, vi x7, vi x8, vi x9, vu, vu, vu, vu] [(.int x8), (.int 2), (.ref a12), (.ref a12)])) rfl rfl (hb hby at_716)
  have f118 : Ax Z h117 a12 .char ((RR 65 3 x8).map Value.int) := (by have q := A117; rw [own_rr (by decide) hc8] at q; exact q)
  have f119 := f111.wr W117
  have f120 := f112.wr W117
  have f121 := f113.wr W117
  have f122 := f114.wr W117
  have f123 := f115.wr W117
  have f124 := f116.wr W117
  have Z117 := Nat.le_trans Z109 (Keep.of_wr W117).1
  have N117 := Fr.snoc X117 N109 g12
  refine DoneW.step st117 ?_
  show DoneW p e below s _ _ _ (T117.setTop (mkF m 717 #[vi p1, vi p2, vi p3, vi p4, vi p5, vi x5, vi x6, vi x7, vi x8, vi x9, vu, vu, vu, vu] [(.ref a12)]))
  refine DoneW.step (fun t k => XS.dup X117.here hx rfl (hb hby at_717) rfl rfl k) ?_
  show DoneW p e below s _ _ _ (T117.setTop (mkF m 718 #[vi p1, vi p2, vi p3, vi p4, vi p5, vi x5, vi x6, vi x7, vi x8, vi x9, vu, vu, vu, vu] [(.ref a12), (.ref a12)]))
  refine DoneW.step (fun t k => XS.iconst X117.here hx rfl (hb hby at_718) k) ?_
  show DoneW p e below s _ _ _ (T117.setTop (mkF m 719 #[vi p1, vi p2, vi p3, vi p4, vi p5, vi x5, vi x6, vi x7, vi x8, vi x9, vu, vu, vu, vu] [(.int 3), (.ref a12), (.ref a12)]))
  refine DoneW.step (fun t k => XS.iload X117.here hx rfl (hb hby at_719) rfl k) ?_
  show DoneW p e below s _ _ _ (T117.setTop (mkF m 721 #[vi p1, vi p2, vi p3, vi p4, vi p5, vi x5, vi x6, vi x7, vi x8, vi x9, vu, vu, vu, vu] [(.int x8), (.int 3), (.ref a12), (.ref a12)]))
  obtain ⟨T125, h125, X125, e125, W125, A125, st125⟩ := stoC X117 hx hZ e117 f118 (j := (3 : Int32)) (by decide) (i := 3) (by decide) (by rw [List.length_map, RR.len (by decide)]; decide) (g := (mkF m 721 #[vi p1, vi p2, vi p3, vi p4, vi p5, vi x5, vi x6, vi x7, vi x8, vi x9, vu, vu, vu, vu] [(.int x8), (.int 3), (.ref a12), (.ref a12)])) rfl rfl (hb hby at_721)
  have f126 : Ax Z h125 a12 .char ((RR 65 4 x8).map Value.int) := (by have q := A125; rw [own_rr (by decide) hc8] at q; exact q)
  have f127 := f119.wr W125
  have f128 := f120.wr W125
  have f129 := f121.wr W125
  have f130 := f122.wr W125
  have f131 := f123.wr W125
  have f132 := f124.wr W125
  have Z125 := Nat.le_trans Z117 (Keep.of_wr W125).1
  have N125 := Fr.snoc X125 N117 g12
  refine DoneW.step st125 ?_
  show DoneW p e below s _ _ _ (T125.setTop (mkF m 722 #[vi p1, vi p2, vi p3, vi p4, vi p5, vi x5, vi x6, vi x7, vi x8, vi x9, vu, vu, vu, vu] [(.ref a12)]))
  refine DoneW.step (fun t k => XS.dup X125.here hx rfl (hb hby at_722) rfl rfl k) ?_
  show DoneW p e below s _ _ _ (T125.setTop (mkF m 723 #[vi p1, vi p2, vi p3, vi p4, vi p5, vi x5, vi x6, vi x7, vi x8, vi x9, vu, vu, vu, vu] [(.ref a12), (.ref a12)]))
  refine DoneW.step (fun t k => XS.iconst X125.here hx rfl (hb hby at_723) k) ?_
  show DoneW p e below s _ _ _ (T125.setTop (mkF m 724 #[vi p1, vi p2, vi p3, vi p4, vi p5, vi x5, vi x6, vi x7, vi x8, vi x9, vu, vu, vu, vu] [(.int 4), (.ref a12), (.ref a12)]))
  refine DoneW.step (fun t k => XS.iload X125.here hx rfl (hb hby at_724) rfl k) ?_
  show DoneW p e below s _ _ _ (T125.setTop (mkF m 726 #[vi p1, vi p2, vi p3, vi p4, vi p5, vi x5, vi x6, vi x7, vi x8, vi x9, vu, vu, vu, vu] [(.int x8), (.int 4), (.ref a12), (.ref a12)]))
  obtain ⟨T133, h133, X133, e133, W133, A133, st133⟩ := stoC X125 hx hZ e125 f126 (j := (4 : Int32)) (by decide) (i := 4) (by decide) (by rw [List.length_map, RR.len (by decide)]; decide) (g := (mkF m 726 #[vi p1, vi p2, vi p3, vi p4, vi p5, vi x5, vi x6, vi x7, vi x8, vi x9, vu, vu, vu, vu] [(.int x8), (.int 4), (.ref a12), (.ref a12)])) rfl rfl (hb hby at_726)
  have f134 : Ax Z h133 a12 .char ((RR 65 5 x8).map Value.int) := (by have q := A133; rw [own_rr (by decide) hc8] at q; exact q)
  have f135 := f127.wr W133
  have f136 := f128.wr W133
  have f137 := f129.wr W133
  have f138 := f130.wr W133
  have f139 := f131.wr W133
  have f140 := f132.wr W133
  have Z133 := Nat.le_trans Z125 (Keep.of_wr W133).1
  have N133 := Fr.snoc X133 N125 g12
  refine DoneW.step st133 ?_
  show DoneW p e below s _ _ _ (T133.setTop (mkF m 727 #[vi p1, vi p2, vi p3, vi p4, vi p5, vi x5, vi x6, vi x7, vi x8, vi x9, vu, vu, vu, vu] [(.ref a12)]))
  refine DoneW.step (fun t k => XS.dup X133.here hx rfl (hb hby at_727) rfl rfl k) ?_
  show DoneW p e below s _ _ _ (T133.setTop (mkF m 728 #[vi p1, vi p2, vi p3, vi p4, vi p5, vi x5, vi x6, vi x7, vi x8, vi x9, vu, vu, vu, vu] [(.ref a12), (.ref a12)]))
  refine DoneW.step (fun t k => XS.iconst X133.here hx rfl (hb hby at_728) k) ?_
  show DoneW p e below s _ _ _ (T133.setTop (mkF m 729 #[vi p1, vi p2, vi p3, vi p4, vi p5, vi x5, vi x6, vi x7, vi x8, vi x9, vu, vu, vu, vu] [(.int 5), (.ref a12), (.ref a12)]))
  refine DoneW.step (fun t k => XS.iload X133.here hx rfl (hb hby at_729) rfl k) ?_
  show DoneW p e below s _ _ _ (T133.setTop (mkF m 731 #[vi p1, vi p2, vi p3, vi p4, vi p5, vi x5, vi x6, vi x7, vi x8, vi x9, vu, vu, vu, vu] [(.int x8), (.int 5), (.ref a12), (.ref a12)]))
  obtain ⟨T141, h141, X141, e141, W141, A141, st141⟩ := stoC X133 hx hZ e133 f134 (j := (5 : Int32)) (by decide) (i := 5) (by decide) (by rw [List.length_map, RR.len (by decide)]; decide) (g := (mkF m 731 #[vi p1, vi p2, vi p3, vi p4, vi p5, vi x5, vi x6, vi x7, vi x8, vi x9, vu, vu, vu, vu] [(.int x8), (.int 5), (.ref a12), (.ref a12)])) rfl rfl (hb hby at_731)
  have f142 : Ax Z h141 a12 .char ((RR 65 6 x8).map Value.int) := (by have q := A141; rw [own_rr (by decide) hc8] at q; exact q)
  have f143 := f135.wr W141
  have f144 := f136.wr W141
  have f145 := f137.wr W141
  have f146 := f138.wr W141
  have f147 := f139.wr W141
  have f148 := f140.wr W141
  have Z141 := Nat.le_trans Z133 (Keep.of_wr W141).1
  have N141 := Fr.snoc X141 N133 g12
  refine DoneW.step st141 ?_
  show DoneW p e below s _ _ _ (T141.setTop (mkF m 732 #[vi p1, vi p2, vi p3, vi p4, vi p5, vi x5, vi x6, vi x7, vi x8, vi x9, vu, vu, vu, vu] [(.ref a12)]))
  refine DoneW.step (fun t k => XS.dup X141.here hx rfl (hb hby at_732) rfl rfl k) ?_
  show DoneW p e below s _ _ _ (T141.setTop (mkF m 733 #[vi p1, vi p2, vi p3, vi p4, vi p5, vi x5, vi x6, vi x7, vi x8, vi x9, vu, vu, vu, vu] [(.ref a12), (.ref a12)]))
  refine DoneW.step (fun t k => XS.bipush X141.here hx rfl (hb hby at_733) k) ?_
  show DoneW p e below s _ _ _ (T141.setTop (mkF m 735 #[vi p1, vi p2, vi p3, vi p4, vi p5, vi x5, vi x6, vi x7, vi x8, vi x9, vu, vu, vu, vu] [(.int 6), (.ref a12), (.ref a12)]))
  refine DoneW.step (fun t k => XS.iload X141.here hx rfl (hb hby at_735) rfl k) ?_
  show DoneW p e below s _ _ _ (T141.setTop (mkF m 737 #[vi p1, vi p2, vi p3, vi p4, vi p5, vi x5, vi x6, vi x7, vi x8, vi x9, vu, vu, vu, vu] [(.int x8), (.int 6), (.ref a12), (.ref a12)]))
  obtain ⟨T149, h149, X149, e149, W149, A149, st149⟩ := stoC X141 hx hZ e141 f142 (j := (6 : Int32)) (by decide) (i := 6) (by decide) (by rw [List.length_map, RR.len (by decide)]; decide) (g := (mkF m 737 #[vi p1, vi p2, vi p3, vi p4, vi p5, vi x5, vi x6, vi x7, vi x8, vi x9, vu, vu, vu, vu] [(.int x8), (.int 6), (.ref a12), (.ref a12)])) rfl rfl (hb hby at_737)
  have f150 : Ax Z h149 a12 .char ((RR 65 7 x8).map Value.int) := (by have q := A149; rw [own_rr (by decide) hc8] at q; exact q)
  have f151 := f143.wr W149
  have f152 := f144.wr W149
  have f153 := f145.wr W149
  have f154 := f146.wr W149
  have f155 := f147.wr W149
  have f156 := f148.wr W149
  have Z149 := Nat.le_trans Z141 (Keep.of_wr W149).1
  have N149 := Fr.snoc X149 N141 g12
  refine DoneW.step st149 ?_
  show DoneW p e below s _ _ _ (T149.setTop (mkF m 738 #[vi p1, vi p2, vi p3, vi p4, vi p5, vi x5, vi x6, vi x7, vi x8, vi x9, vu, vu, vu, vu] [(.ref a12)]))
  refine DoneW.step (fun t k => XS.dup X149.here hx rfl (hb hby at_738) rfl rfl k) ?_
  show DoneW p e below s _ _ _ (T149.setTop (mkF m 739 #[vi p1, vi p2, vi p3, vi p4, vi p5, vi x5, vi x6, vi x7, vi x8, vi x9, vu, vu, vu, vu] [(.ref a12), (.ref a12)]))
  refine DoneW.step (fun t k => XS.bipush X149.here hx rfl (hb hby at_739) k) ?_
  show DoneW p e below s _ _ _ (T149.setTop (mkF m 741 #[vi p1, vi p2, vi p3, vi p4, vi p5, vi x5, vi x6, vi x7, vi x8, vi x9, vu, vu, vu, vu] [(.int 7), (.ref a12), (.ref a12)]))
  refine DoneW.step (fun t k => XS.iload X149.here hx rfl (hb hby at_741) rfl k) ?_
  show DoneW p e below s _ _ _ (T149.setTop (mkF m 743 #[vi p1, vi p2, vi p3, vi p4, vi p5, vi x5, vi x6, vi x7, vi x8, vi x9, vu, vu, vu, vu] [(.int x8), (.int 7), (.ref a12), (.ref a12)]))
  obtain ⟨T157, h157, X157, e157, W157, A157, st157⟩ := stoC X149 hx hZ e149 f150 (j := (7 : Int32)) (by decide) (i := 7) (by decide) (by rw [List.length_map, RR.len (by decide)]; decide) (g := (mkF m 743 #[vi p1, vi p2, vi p3, vi p4, vi p5, vi x5, vi x6, vi x7, vi x8, vi x9, vu, vu, vu, vu] [(.int x8), (.int 7), (.ref a12), (.ref a12)])) rfl rfl (hb hby at_743)
  have f158 : Ax Z h157 a12 .char ((RR 65 8 x8).map Value.int) := (by have q := A157; rw [own_rr (by decide) hc8] at q; exact q)
  have f159 := f151.wr W157
  have f160 := f152.wr W157
  have f161 := f153.wr W157
  have f162 := f154.wr W157
  have f163 := f155.wr W157
  have f164 := f156.wr W157
  have Z157 := Nat.le_trans Z149 (Keep.of_wr W157).1
  have N157 := Fr.snoc X157 N149 g12
  refine DoneW.step st157 ?_
  show DoneW p e below s _ _ _ (T157.setTop (mkF m 744 #[vi p1, vi p2, vi p3, vi p4, vi p5, vi x5, vi x6, vi x7, vi x8, vi x9, vu, vu, vu, vu] [(.ref a12)]))
  exact fill744 p1 p2 p3 p4 p5 x5 x6 x7 x8 x9 a12 cs sv X157 hx hZ hw hby hml hown hlk hret hnm N157 Z157 e157 f158 f159 g12 f160 f161 hsv f162 f163 f164 hcs hr5 hr6 hr7 hr8 hc5 hc6 hc7 hc8
theorem pn_0 : plainName "com/example/stowage/stowage/model/NamesIsNamePinLaw" = true := by first | (simp [plainName, overriddenIn]; done) | decide +kernel
theorem ef_0 (m : MethodId) (p1 : Int32) (p2 : Int32) (p3 : Int32) (p4 : Int32) (p5 : Int32) : entryFrame m #[(.int p1), (.int p2), (.int p3), (.int p4), (.int p5)] maxLocals = mkF m 0 #[.val (.int p1), .val (.int p2), .val (.int p3), .val (.int p4), .val (.int p5), .unset, .unset, .unset, .unset, .unset, .unset, .unset, .unset, .unset] [] := by first | (simp [entryFrame, mkF, argsToLocals, Value.category, maxLocals]; done) | rfl
def Qrm0 (Z : State) (p1 : Int32) (p2 : Int32) (p3 : Int32) (p4 : Int32) (p5 : Int32) (cs : Int32) (sv : Value) (h0 : Heap) (n0 : Nat) : Option Value → Heap → List Loc → Prop := fun v h L => v = some (.int 1) ∧ Fr n0 L
set_option maxRecDepth 65536 in
set_option maxHeartbeats 40000000 in
theorem rm0 (l : Launch) (Z : State) (a0 : Array Value) (hw : HH a0 Z) (ws : List Jvm.Cond) (p1 : Int32) (p2 : Int32) (p3 : Int32) (p4 : Int32) (p5 : Int32) (cs : Int32) (sv : Value) (h0 : Heap) (n0 : Nat) (Z0 : n0 ≤ h0.size) (Scs : Sta Z h0 "java/lang/String" "COMPACT_STRINGS" "Z" (.int cs)) (Ssx : Sta Z h0 "jdk/internal/util/Preconditions" "SIOOBE_FORMATTER" "Ljava/util/function/BiFunction;" sv) (hsv : sv.isRef = true) (Sad : Sta Z h0 "java/lang/StringUTF16" "$assertionsDisabled" "Z" (.int 1)) (Shi : Sta Z h0 "java/lang/StringUTF16" "HI_BYTE_SHIFT" "I" (.int 0)) (Slo : Sta Z h0 "java/lang/StringUTF16" "LO_BYTE_SHIFT" "I" (.int 8)) (hcs : ¬ cs = (0 : Int32)) :
    MetFree l x (head1 (Jvm.Cond.code x code maxLocals ret :: ws) room_1) (fun a U => a = #[(.int p1), (.int p2), (.int p3), (.int p4), (.int p5)] ∧ Z.Warmed39 U.vm ∧ U.heap = h0 ∧ ConstHeldL U "com/example/stowage/stowage/model/NamesIsNamePinLaw" 9) (fun _ _ _ _ _ => True) (fun _ U o U' => ∃ v L, o = .returned v ∧ Qrm0 Z p1 p2 p3 p4 p5 cs sv h0 n0 v U'.heap L ∧ ReturnedEndW U o U' L room_1.cells room_1.slots) := by
  refine MetFree.of_bodySF (plainFor_of_name pn_0) hisR ?_
  intro p e s m args below meth c s₁ Bd hml0 hP hK
  obtain ⟨rfl, hZ, hhp, hheld⟩ := hP
  have hx := Bd.exec
  have hby := Bd.bytes
  have hml : c.maxLocals = 14 := hml0
  have hown : s.vm.findClass "com/example/stowage/stowage/model/NamesIsNamePinLaw" = some m.cls := findClass_of_methodNamed Bd.named
  have hnm := (name_of_methodNamed Bd.named Bd.method).1
  have hlk : meth.locks = false := BodyLoose.notSynchronized Bd
  have hret := Bd.returns
  have X0 : Stand p l e room_1 s m #[(.int p1), (.int p2), (.int p3), (.int p4), (.int p5)] below meth c s₁ [] 0 0 := Stand.of_body Bd
  have e0 : s₁.heap = h0 := by rw [← hhp, Bd.state]; rfl
  have N0 := Fr.nil n0
  show DoneW p e below s (Qrm0 Z p1 p2 p3 p4 p5 cs sv h0 n0) room_1.cells room_1.slots (s₁.setTop (entryFrame m #[(.int p1), (.int p2), (.int p3), (.int p4), (.int p5)] maxLocals))
  refine DoneW.step (fun t k => castTop (ef_0 m p1 p2 p3 p4 p5) k) ?_
  show DoneW p e below s _ _ _ (s₁.setTop (mkF m 0 #[vi p1, vi p2, vi p3, vi p4, vi p5, vu, vu, vu, vu, vu, vu, vu, vu, vu] []))
  refine DoneW.step (fun t k => XS.iloadN X0.here hx rfl (hb hby at_0) rfl k) ?_
  show DoneW p e below s _ _ _ (s₁.setTop (mkF m 1 #[vi p1, vi p2, vi p3, vi p4, vi p5, vu, vu, vu, vu, vu, vu, vu, vu, vu] [(.int p2)]))
  refine DoneW.step (X0.ldcInt hx hown (mvT hZ (tw0 hw)) (g := (mkF m 1 #[vi p1, vi p2, vi p3, vi p4, vi p5, vu, vu, vu, vu, vu, vu, vu, vu, vu] [(.int p2)])) rfl (hb hby at_1)) ?_
  show DoneW p e below s _ _ _ (s₁.setTop (mkF m 3 #[vi p1, vi p2, vi p3, vi p4, vi p5, vu, vu, vu, vu, vu, vu, vu, vu, vu] [(.int 65535), (.int p2)]))
  refine DoneW.step (fun t k => XS.iand X0.here hx rfl (hb hby at_3) rfl k) ?_
  show DoneW p e below s _ _ _ (s₁.setTop (mkF m 4 #[vi p1, vi p2, vi p3, vi p4, vi p5, vu, vu, vu, vu, vu, vu, vu, vu, vu] [(.int (p2 &&& (65535 : Int32)))]))
  refine DoneW.step (fun t k => XS.i2c X0.here hx rfl (hb hby at_4) rfl k) ?_
  show DoneW p e below s _ _ _ (s₁.setTop (mkF m 5 #[vi p1, vi p2, vi p3, vi p4, vi p5, vu, vu, vu, vu, vu, vu, vu, vu, vu] [(.int ((p2 &&& (65535 : Int32))).toUInt32.toUInt16.toUInt32.toInt32)]))
  generalize dx101 : ((p2 &&& (65535 : Int32))).toUInt32.toUInt16.toUInt32.toInt32 = x101
  show DoneW p e below s _ _ _ (s₁.setTop (mkF m 5 #[vi p1, vi p2, vi p3, vi p4, vi p5, vu, vu, vu, vu, vu, vu, vu, vu, vu] [(.int x101)]))
  refine DoneW.step (fun t k => XS.istore X0.here hx rfl (hb hby at_5) rfl (l' := #[vi p1, vi p2, vi p3, vi p4, vi p5, vi x101, vu, vu, vu, vu, vu, vu, vu, vu]) rfl k) ?_
  show DoneW p e below s _ _ _ (s₁.setTop (mkF m 7 #[vi p1, vi p2, vi p3, vi p4, vi p5, vi x101, vu, vu, vu, vu, vu, vu, vu, vu] []))
  refine DoneW.step (fun t k => XS.iloadN X0.here hx rfl (hb hby at_7) rfl k) ?_
  show DoneW p e below s _ _ _ (s₁.setTop (mkF m 8 #[vi p1, vi p2, vi p3, vi p4, vi p5, vi x101, vu, vu, vu, vu, vu, vu, vu, vu] [(.int p3)]))
  refine DoneW.step (X0.ldcInt hx hown (mvT hZ (tw0 hw)) (g := (mkF m 8 #[vi p1, vi p2, vi p3, vi p4, vi p5, vi x101, vu, vu, vu, vu, vu, vu, vu, vu] [(.int p3)])) rfl (hb hby at_8)) ?_
  show DoneW p e below s _ _ _ (s₁.setTop (mkF m 10 #[vi p1, vi p2, vi p3, vi p4, vi p5, vi x101, vu, vu, vu, vu, vu, vu, vu, vu] [(.int 65535), (.int p3)]))
  refine DoneW.step (fun t k => XS.iand X0.here hx rfl (hb hby at_10) rfl k) ?_
  show DoneW p e below s _ _ _ (s₁.setTop (mkF m 11 #[vi p1, vi p2, vi p3, vi p4, vi p5, vi x101, vu, vu, vu, vu, vu, vu, vu, vu] [(.int (p3 &&& (65535 : Int32)))]))
  refine DoneW.step (fun t k => XS.i2c X0.here hx rfl (hb hby at_11) rfl k) ?_
  show DoneW p e below s _ _ _ (s₁.setTop (mkF m 12 #[vi p1, vi p2, vi p3, vi p4, vi p5, vi x101, vu, vu, vu, vu, vu, vu, vu, vu] [(.int ((p3 &&& (65535 : Int32))).toUInt32.toUInt16.toUInt32.toInt32)]))
  generalize dx102 : ((p3 &&& (65535 : Int32))).toUInt32.toUInt16.toUInt32.toInt32 = x102
  show DoneW p e below s _ _ _ (s₁.setTop (mkF m 12 #[vi p1, vi p2, vi p3, vi p4, vi p5, vi x101, vu, vu, vu, vu, vu, vu, vu, vu] [(.int x102)]))
  refine DoneW.step (fun t k => XS.istore X0.here hx rfl (hb hby at_12) rfl (l' := #[vi p1, vi p2, vi p3, vi p4, vi p5, vi x101, vi x102, vu, vu, vu, vu, vu, vu, vu]) rfl k) ?_
  show DoneW p e below s _ _ _ (s₁.setTop (mkF m 14 #[vi p1, vi p2, vi p3, vi p4, vi p5, vi x101, vi x102, vu, vu, vu, vu, vu, vu, vu] []))
  refine DoneW.step (fun t k => XS.iloadN X0.here hx rfl (hb hby at_14) rfl k) ?_
  show DoneW p e below s _ _ _ (s₁.setTop (mkF m 15 #[vi p1, vi p2, vi p3, vi p4, vi p5, vi x101, vi x102, vu, vu, vu, vu, vu, vu, vu] [(.int p4)]))
  refine DoneW.step (X0.ldcInt hx hown (mvT hZ (tw0 hw)) (g := (mkF m 15 #[vi p1, vi p2, vi p3, vi p4, vi p5, vi x101, vi x102, vu, vu, vu, vu, vu, vu, vu] [(.int p4)])) rfl (hb hby at_15)) ?_
  show DoneW p e below s _ _ _ (s₁.setTop (mkF m 17 #[vi p1, vi p2, vi p3, vi p4, vi p5, vi x101, vi x102, vu, vu, vu, vu, vu, vu, vu] [(.int 65535), (.int p4)]))
  refine DoneW.step (fun t k => XS.iand X0.here hx rfl (hb hby at_17) rfl k) ?_
  show DoneW p e below s _ _ _ (s₁.setTop (mkF m 18 #[vi p1, vi p2, vi p3, vi p4, vi p5, vi x101, vi x102, vu, vu, vu, vu, vu, vu, vu] [(.int (p4 &&& (65535 : Int32)))]))
  refine DoneW.step (fun t k => XS.i2c X0.here hx rfl (hb hby at_18) rfl k) ?_
  show DoneW p e below s _ _ _ (s₁.setTop (mkF m 19 #[vi p1, vi p2, vi p3, vi p4, vi p5, vi x101, vi x102, vu, vu, vu, vu, vu, vu, vu] [(.int ((p4 &&& (65535 : Int32))).toUInt32.toUInt16.toUInt32.toInt32)]))
  generalize dx103 : ((p4 &&& (65535 : Int32))).toUInt32.toUInt16.toUInt32.toInt32 = x103
  show DoneW p e below s _ _ _ (s₁.setTop (mkF m 19 #[vi p1, vi p2, vi p3, vi p4, vi p5, vi x101, vi x102, vu, vu, vu, vu, vu, vu, vu] [(.int x103)]))
  refine DoneW.step (fun t k => XS.istore X0.here hx rfl (hb hby at_19) rfl (l' := #[vi p1, vi p2, vi p3, vi p4, vi p5, vi x101, vi x102, vi x103, vu, vu, vu, vu, vu, vu]) rfl k) ?_
  show DoneW p e below s _ _ _ (s₁.setTop (mkF m 21 #[vi p1, vi p2, vi p3, vi p4, vi p5, vi x101, vi x102, vi x103, vu, vu, vu, vu, vu, vu] []))
  refine DoneW.step (fun t k => XS.iload X0.here hx rfl (hb hby at_21) rfl k) ?_
  show DoneW p e below s _ _ _ (s₁.setTop (mkF m 23 #[vi p1, vi p2, vi p3, vi p4, vi p5, vi x101, vi x102, vi x103, vu, vu, vu, vu, vu, vu] [(.int p5)]))
  refine DoneW.step (X0.ldcInt hx hown (mvT hZ (tw0 hw)) (g := (mkF m 23 #[vi p1, vi p2, vi p3, vi p4, vi p5, vi x101, vi x102, vi x103, vu, vu, vu, vu, vu, vu] [(.int p5)])) rfl (hb hby at_23)) ?_
  show DoneW p e below s _ _ _ (s₁.setTop (mkF m 25 #[vi p1, vi p2, vi p3, vi p4, vi p5, vi x101, vi x102, vi x103, vu, vu, vu, vu, vu, vu] [(.int 65535), (.int p5)]))
  refine DoneW.step (fun t k => XS.iand X0.here hx rfl (hb hby at_25) rfl k) ?_
  show DoneW p e below s _ _ _ (s₁.setTop (mkF m 26 #[vi p1, vi p2, vi p3, vi p4, vi p5, vi x101, vi x102, vi x103, vu, vu, vu, vu, vu, vu] [(.int (p5 &&& (65535 : Int32)))]))
  refine DoneW.step (fun t k => XS.i2c X0.here hx rfl (hb hby at_26) rfl k) ?_
  show DoneW p e below s _ _ _ (s₁.setTop (mkF m 27 #[vi p1, vi p2, vi p3, vi p4, vi p5, vi x101, vi x102, vi x103, vu, vu, vu, vu, vu, vu] [(.int ((p5 &&& (65535 : Int32))).toUInt32.toUInt16.toUInt32.toInt32)]))
  generalize dx104 : ((p5 &&& (65535 : Int32))).toUInt32.toUInt16.toUInt32.toInt32 = x104
  show DoneW p e below s _ _ _ (s₁.setTop (mkF m 27 #[vi p1, vi p2, vi p3, vi p4, vi p5, vi x101, vi x102, vi x103, vu, vu, vu, vu, vu, vu] [(.int x104)]))
  refine DoneW.step (fun t k => XS.istore X0.here hx rfl (hb hby at_27) rfl (l' := #[vi p1, vi p2, vi p3, vi p4, vi p5, vi x101, vi x102, vi x103, vi x104, vu, vu, vu, vu, vu]) rfl k) ?_
  show DoneW p e below s _ _ _ (s₁.setTop (mkF m 29 #[vi p1, vi p2, vi p3, vi p4, vi p5, vi x101, vi x102, vi x103, vi x104, vu, vu, vu, vu, vu] []))
  refine DoneW.step (fun t k => XS.iloadN X0.here hx rfl (hb hby at_29) rfl k) ?_
  show DoneW p e below s _ _ _ (s₁.setTop (mkF m 30 #[vi p1, vi p2, vi p3, vi p4, vi p5, vi x101, vi x102, vi x103, vi x104, vu, vu, vu, vu, vu] [(.int p1)]))
  refine DoneW.step (X0.ldcInt hx hown (mvT hZ (tw1 hw)) (g := (mkF m 30 #[vi p1, vi p2, vi p3, vi p4, vi p5, vi x101, vi x102, vi x103, vi x104, vu, vu, vu, vu, vu] [(.int p1)])) rfl (hb hby at_30)) ?_
  show DoneW p e below s _ _ _ (s₁.setTop (mkF m 32 #[vi p1, vi p2, vi p3, vi p4, vi p5, vi x101, vi x102, vi x103, vi x104, vu, vu, vu, vu, vu] [(.int 2147483647), (.int p1)]))
  refine DoneW.step (fun t k => XS.iand X0.here hx rfl (hb hby at_32) rfl k) ?_
  show DoneW p e below s _ _ _ (s₁.setTop (mkF m 33 #[vi p1, vi p2, vi p3, vi p4, vi p5, vi x101, vi x102, vi x103, vi x104, vu, vu, vu, vu, vu] [(.int (p1 &&& (2147483647 : Int32)))]))
  refine DoneW.step (fun t k => XS.bipush X0.here hx rfl (hb hby at_33) k) ?_
  show DoneW p e below s _ _ _ (s₁.setTop (mkF m 35 #[vi p1, vi p2, vi p3, vi p4, vi p5, vi x101, vi x102, vi x103, vi x104, vu, vu, vu, vu, vu] [(.int 6), (.int (p1 &&& (2147483647 : Int32)))]))
  refine DoneW.step (fun t k => iremM X0 hx rfl (hb hby at_35) rfl (by decide) k) ?_
  show DoneW p e below s _ _ _ (s₁.setTop (mkF m 36 #[vi p1, vi p2, vi p3, vi p4, vi p5, vi x101, vi x102, vi x103, vi x104, vu, vu, vu, vu, vu] [(.int ((p1 &&& (2147483647 : Int32)) % (6 : Int32)))]))
  generalize dx105 : ((p1 &&& (2147483647 : Int32)) % (6 : Int32)) = x105
  show DoneW p e below s _ _ _ (s₁.setTop (mkF m 36 #[vi p1, vi p2, vi p3, vi p4, vi p5, vi x101, vi x102, vi x103, vi x104, vu, vu, vu, vu, vu] [(.int x105)]))
  refine DoneW.step (fun t k => XS.istore X0.here hx rfl (hb hby at_36) rfl (l' := #[vi p1, vi p2, vi p3, vi p4, vi p5, vi x101, vi x102, vi x103, vi x104, vi x105, vu, vu, vu, vu]) rfl k) ?_
  show DoneW p e below s _ _ _ (s₁.setTop (mkF m 38 #[vi p1, vi p2, vi p3, vi p4, vi p5, vi x101, vi x102, vi x103, vi x104, vi x105, vu, vu, vu, vu] []))
  have hr5 := own_ch dx101
  have hc5 : nar .char x101 = x101 := own_nch hr5.1 hr5.2
  have hr6 := own_ch dx102
  have hc6 : nar .char x102 = x102 := own_nch hr6.1 hr6.2
  have hr7 := own_ch dx103
  have hc7 : nar .char x103 = x103 := own_nch hr7.1 hr7.2
  have hr8 := own_ch dx104
  have hc8 : nar .char x104 = x104 := own_nch hr8.1 hr8.2
  refine DoneW.step (fun t k => XS.iload X0.here hx rfl (hb hby at_38) rfl k) ?_
  show DoneW p e below s _ _ _ (s₁.setTop (mkF m 40 #[vi p1, vi p2, vi p3, vi p4, vi p5, vi x101, vi x102, vi x103, vi x104, vi x105, vu, vu, vu, vu] [(.int x105)]))
  by_cases c1 : x105 = (0 : Int32)
  · refine DoneW.step (fun t k => XS.ifNo X0.here hx rfl (hb hby at_40) rfl ((if0 _ _).trans (teq c1).2) k) ?_
    show DoneW p e below s _ _ _ (s₁.setTop (mkF m 43 #[vi p1, vi p2, vi p3, vi p4, vi p5, vi x101, vi x102, vi x103, vi x104, vi x105, vu, vu, vu, vu] []))
    obtain ⟨b106, T106, X106, S106, -, hkp106, -, ⟨un106, hde106, sl106⟩, st106⟩ := X0.ldcStringColdSl hx hown (mvS (s := s) (vm0 := s.vm) hZ (tw2 hw)) (own_wS0 hw hZ) hheld (fun un q => Jvm.ClassFile.lat_of_text q (by decide)) (g := (mkF m 43 #[vi p1, vi p2, vi p3, vi p4, vi p5, vi x101, vi x102, vi x103, vi x104, vi x105, vu, vu, vu, vu] [])) rfl (hb hby at_43) (n := 0) (by decide +kernel) (by decide) (by decide) (by decide)
    have hZo := hZ
    have hZ : Z.Warmed39 (s.setVm T106.vm).vm := State.Warmed39.trans (t := s) hZo S106.1
    have hown : (s.setVm T106.vm).vm.findClass "com/example/stowage/stowage/model/NamesIsNamePinLaw" = some m.cls := by rw [show (s.setVm T106.vm).vm = T106.vm from rfl, S106.1.alike.findClass]; exact hown
    obtain ⟨vb106, fe106, ff106, fa106⟩ := own_sl (W := T106) hZ.alike (tw6 hw) sl106 ((Jvm.ClassFile.units_of_text hde106 (by decide)).trans (by decide))
    have Z106 : n0 ≤ T106.heap.size := by have q := (ext_of hkp106).1; rw [e0] at q; exact Nat.le_trans Z0 q
    refine DoneW.step st106 ?_
    show DoneW p e below s _ _ _ (T106.setTop (mkF m 45 #[vi p1, vi p2, vi p3, vi p4, vi p5, vi x101, vi x102, vi x103, vi x104, vi x105, vu, vu, vu, vu] [(.ref b106)]))
    refine DoneW.step (fun t k => XS.astore X106.here hx rfl (hb hby at_45) rfl rfl (l' := #[vi p1, vi p2, vi p3, vi p4, vi p5, vi x101, vi x102, vi x103, vi x104, vi x105, vr b106, vu, vu, vu]) rfl k) ?_
    show DoneW p e below s _ _ _ (T106.setTop (mkF m 47 #[vi p1, vi p2, vi p3, vi p4, vi p5, vi x101, vi x102, vi x103, vi x104, vi x105, vr b106, vu, vu, vu] []))
    refine DoneW.step (fun t k => XS.iconst X106.here hx rfl (hb hby at_47) k) ?_
    show DoneW p e below s _ _ _ (T106.setTop (mkF m 48 #[vi p1, vi p2, vi p3, vi p4, vi p5, vi x101, vi x102, vi x103, vi x104, vi x105, vr b106, vu, vu, vu] [(.int 0)]))
    refine DoneW.step (fun t k => XS.istore X106.here hx rfl (hb hby at_48) rfl (l' := #[vi p1, vi p2, vi p3, vi p4, vi p5, vi x101, vi x102, vi x103, vi x104, vi x105, vr b106, vi 0, vu, vu]) rfl k) ?_
    show DoneW p e below s _ _ _ (T106.setTop (mkF m 50 #[vi p1, vi p2, vi p3, vi p4, vi p5, vi x101, vi x102, vi x103, vi x104, vi x105, vr b106, vi 0, vu, vu] []))
    refine DoneW.step (fun t k => XS.goto X106.here hx rfl (pc0 := 50) (pc' := 1130) rfl (hb hby at_50) (by decide) (by decide) k) ?_
    show DoneW p e below s _ _ _ (T106.setTop (mkF m 1130 #[vi p1, vi p2, vi p3, vi p4, vi p5, vi x101, vi x102, vi x103, vi x104, vi x105, vr b106, vi 0, vu, vu] []))
    refine DoneW.step (fun t k => XS.aload X106.here hx rfl (hb hby at_1130) rfl rfl k) ?_
    show DoneW p e below s _ _ _ (T106.setTop (mkF m 1132 #[vi p1, vi p2, vi p3, vi p4, vi p5, vi x101, vi x102, vi x103, vi x104, vi x105, vr b106, vi 0, vu, vu] [(.ref b106)]))
    obtain ⟨v107, _, ⟨T107, L107, k107, n107⟩, -, X107, ⟨Lc107, hQ107, l107, y107, z107⟩, st107⟩ := Jvm.LawKit.callS X106 hx (y := (⟨"com/example/stowage/stowage/model/Names", "isName", "(Ljava/lang/String;)Z"⟩ : MethodName)) hown (mvT hZ (tw10 hw)) (mvT hZ (tw11 hw)) (mvT hZ (tw12 hw)) (mvT hZ (tw13 hw)) (by decide) (backOf (W := 0) (rmin0 l Z a0 hw [] b106 vb106 [] (0 : Int32) T106.heap n0 Z106 fe106 ff106 fa106 rfl rfl) hZ (tw13 hw) (tw12 hw) (by decide) (by decide)) (g := (mkF m 1132 #[vi p1, vi p2, vi p3, vi p4, vi p5, vi x101, vi x102, vi x103, vi x104, vi x105, vr b106, vi 0, vu, vu] [(.ref b106)])) rfl (by rw [hml]; rfl) (argsL := [(.ref b106)]) (rest := []) (lenOf pd_17 rfl) rfl (by show 2 * 0 + _ ≤ _; exact Nat.le_of_eq rfl) (hb hby at_1132) (fun _ _ => ⟨rfl, rfl, (by decide : 2 + 0 ≤ _), (by decide : 4 + 0 ≤ _)⟩)
    dsimp only [Pt.U, Pt.locs, Pt.cells, Pt.slots] at X107 l107 y107 z107 st107 hQ107
    subst l107 y107 z107
    refine DoneW.step st107 ?_
    obtain ⟨rfl, N107q, e107⟩ := hQ107
    have N107 := Fr.app N0 N107q
    show DoneW p e below s _ _ _ (T107.setTop (mkF m 1135 #[vi p1, vi p2, vi p3, vi p4, vi p5, vi x101, vi x102, vi x103, vi x104, vi x105, vr b106, vi 0, vu, vu] [(.int 0)]))
    refine DoneW.step (fun t k => XS.iload X107.here hx rfl (hb hby at_1135) rfl k) ?_
    show DoneW p e below s _ _ _ (T107.setTop (mkF m 1137 #[vi p1, vi p2, vi p3, vi p4, vi p5, vi x101, vi x102, vi x103, vi x104, vi x105, vr b106, vi 0, vu, vu] [(.int 0), (.int 0)]))
    refine DoneW.step (fun t k => XS.icmpNo X107.here hx rfl (hb hby at_1137) rfl (teq (by decide)).2 k) ?_
    show DoneW p e below s _ _ _ (T107.setTop (mkF m 1140 #[vi p1, vi p2, vi p3, vi p4, vi p5, vi x101, vi x102, vi x103, vi x104, vi x105, vr b106, vi 0, vu, vu] []))
    refine DoneW.step (fun t k => XS.iconst X107.here hx rfl (hb hby at_1140) k) ?_
    show DoneW p e below s _ _ _ (T107.setTop (mkF m 1141 #[vi p1, vi p2, vi p3, vi p4, vi p5, vi x101, vi x102, vi x103, vi x104, vi x105, vr b106, vi 0, vu, vu] [(.int 1)]))
    refine DoneW.step (fun t k => XS.goto X107.here hx rfl (pc0 := 1141) (pc' := 1145) rfl (hb hby at_1141) (by decide) (by decide) k) ?_
    show DoneW p e below s _ _ _ (T107.setTop (mkF m 1145 #[vi p1, vi p2, vi p3, vi p4, vi p5, vi x101, vi x102, vi x103, vi x104, vi x105, vr b106, vi 0, vu, vu] [(.int 1)]))
    exact DoneW.narr (s := s) (vm₁ := T106.vm) X107 S106 e107 (Nat.le_refl _) hx hlk hret (by simp) (hb hby at_1145) (by decide) (by decide) ⟨rfl, N107⟩
  · refine DoneW.step (fun t k => XS.ifYes X0.here hx rfl (pc0 := 40) (pc' := 53) rfl (hb hby at_40) rfl ((if0 _ _).trans (feq c1).2) (by decide) (by decide) k) ?_
    show DoneW p e below s _ _ _ (s₁.setTop (mkF m 53 #[vi p1, vi p2, vi p3, vi p4, vi p5, vi x101, vi x102, vi x103, vi x104, vi x105, vu, vu, vu, vu] []))
    refine DoneW.step (fun t k => XS.iload X0.here hx rfl (hb hby at_53) rfl k) ?_
    show DoneW p e below s _ _ _ (s₁.setTop (mkF m 55 #[vi p1, vi p2, vi p3, vi p4, vi p5, vi x101, vi x102, vi x103, vi x104, vi x105, vu, vu, vu, vu] [(.int x105)]))
    refine DoneW.step (fun t k => XS.iconst X0.here hx rfl (hb hby at_55) k) ?_
    show DoneW p e below s _ _ _ (s₁.setTop (mkF m 56 #[vi p1, vi p2, vi p3, vi p4, vi p5, vi x101, vi x102, vi x103, vi x104, vi x105, vu, vu, vu, vu] [(.int 1), (.int x105)]))
    by_cases c2 : x105 = (1 : Int32)
    · refine DoneW.step (fun t k => XS.icmpNo X0.here hx rfl (hb hby at_56) rfl (teq c2).2 k) ?_
      show DoneW p e below s _ _ _ (s₁.setTop (mkF m 59 #[vi p1, vi p2, vi p3, vi p4, vi p5, vi x101, vi x102, vi x103, vi x104, vi x105, vu, vu, vu, vu] []))
      refine DoneW.step (fun t k => XS.iconst X0.here hx rfl (hb hby at_59) k) ?_
      show DoneW p e below s _ _ _ (s₁.setTop (mkF m 60 #[vi p1, vi p2, vi p3, vi p4, vi p5, vi x101, vi x102, vi x103, vi x104, vi x105, vu, vu, vu, vu] [(.int 1)]))
      obtain ⟨T108, h108, k108, X108, e108, E108, A108, B108, st108⟩ := newPE X0 hx hZ (hw _ (List.mem_of_getElem? (i := 20) rfl)) e0 (g := (mkF m 60 #[vi p1, vi p2, vi p3, vi p4, vi p5, vi x101, vi x102, vi x103, vi x104, vi x105, vu, vu, vu, vu] [(.int 1)])) rfl (hb hby at_60) rfl (by decide) (cap := 1) (by decide) (by decide) (by decide) (by decide) (ad := "[C") (by decide)
      obtain ⟨b108, gq108⟩ : ∃ z, z = h0.size := ⟨_, rfl⟩
      rw [← gq108] at A108 B108 st108
      have f109 := Scs.ext E108
      have f110 := Ssx.ext E108
      have f111 := Sad.ext E108
      have f112 := Shi.ext E108
      have f113 := Slo.ext E108
      have g_b108 := Nat.le_trans Z0 (Nat.le_of_eq gq108.symm)
      have Z108 := Nat.le_trans Z0 E108.1
      have f114 : Ax Z h108 b108 .char [(.int 0)] := Ax.new (ty := .char) (i := 1) A108 (by decide)
      refine DoneW.step st108 ?_
      show DoneW p e below s _ _ _ (T108.setTop (mkF m 62 #[vi p1, vi p2, vi p3, vi p4, vi p5, vi x101, vi x102, vi x103, vi x104, vi x105, vu, vu, vu, vu] [(.ref b108)]))
      refine DoneW.step (fun t k => XS.dup X108.here hx rfl (hb hby at_62) rfl rfl k) ?_
      show DoneW p e below s _ _ _ (T108.setTop (mkF m 63 #[vi p1, vi p2, vi p3, vi p4, vi p5, vi x101, vi x102, vi x103, vi x104, vi x105, vu, vu, vu, vu] [(.ref b108), (.ref b108)]))
      refine DoneW.step (fun t k => XS.iconst X108.here hx rfl (hb hby at_63) k) ?_
      show DoneW p e below s _ _ _ (T108.setTop (mkF m 64 #[vi p1, vi p2, vi p3, vi p4, vi p5, vi x101, vi x102, vi x103, vi x104, vi x105, vu, vu, vu, vu] [(.int 0), (.ref b108), (.ref b108)]))
      refine DoneW.step (fun t k => XS.iload X108.here hx rfl (hb hby at_64) rfl k) ?_
      show DoneW p e below s _ _ _ (T108.setTop (mkF m 66 #[vi p1, vi p2, vi p3, vi p4, vi p5, vi x101, vi x102, vi x103, vi x104, vi x105, vu, vu, vu, vu] [(.int x101), (.int 0), (.ref b108), (.ref b108)]))
      obtain ⟨T115, h115, X115, e115, W115, A115, st115⟩ := stoC X108 hx hZ e108 f114 (j := (0 : Int32)) (by decide) (i := 0) (by decide) (Nat.le_of_ble_eq_true rfl) (g := (mkF m 66 #[vi p1, vi p2, vi p3, vi p4, vi p5, vi x101, vi x102, vi x103, vi x104, vi x105, vu, vu, vu, vu] [(.int x101), (.int 0), (.ref b108), (.ref b108)])) rfl rfl (hb hby at_66)
      have f116 := f109.wr W115
      have f117 := f110.wr W115
      have f118 := f111.wr W115
      have f119 := f112.wr W115
      have f120 := f113.wr W115
      have f121 := B108.wr W115
      have f122 : Ax Z h115 b108 .char [(.int (nar .char x101))] := A115
      have Z115 := Nat.le_trans Z108 (Keep.of_wr W115).1
      have N115 := Fr.snoc X115 N0 g_b108
      refine DoneW.step st115 ?_
      show DoneW p e below s _ _ _ (T115.setTop (mkF m 67 #[vi p1, vi p2, vi p3, vi p4, vi p5, vi x101, vi x102, vi x103, vi x104, vi x105, vu, vu, vu, vu] [(.ref b108)]))
      refine DoneW.step (fun t k => XS.astore X115.here hx rfl (hb hby at_67) rfl rfl (l' := #[vi p1, vi p2, vi p3, vi p4, vi p5, vi x101, vi x102, vi x103, vi x104, vi x105, vu, vu, vr b108, vu]) rfl k) ?_
      show DoneW p e below s _ _ _ (T115.setTop (mkF m 69 #[vi p1, vi p2, vi p3, vi p4, vi p5, vi x101, vi x102, vi x103, vi x104, vi x105, vu, vu, vr b108, vu] []))
      have g123 : Ax Z h115 b108 .char (([x101] : List Int32).map Value.int) := by have q := f122; rw [hc5] at q; exact q
      obtain ⟨T124, h124, X124, e124, E124, A124, D124, -, st124⟩ := newO X115 hx hZ hown (tw21 hw) (tw4 hw) (tw3 hw) e115 (g := (mkF m 69 #[vi p1, vi p2, vi p3, vi p4, vi p5, vi x101, vi x102, vi x103, vi x104, vi x105, vu, vu, vr b108, vu] [])) rfl (hb hby at_69) (by decide) (by decide)
      obtain ⟨b124, gq124⟩ : ∃ z, z = h115.size := ⟨_, rfl⟩
      rw [← gq124] at A124 D124 st124
      have ne125 := Nat.ne_of_lt (Nat.lt_of_lt_of_le f121.lt (Nat.le_of_eq gq124.symm))
      have f126 := f116.ext E124
      have f127 := f117.ext E124
      have f128 := f118.ext E124
      have f129 := f119.ext E124
      have f130 := f120.ext E124
      have f131 := f121.ext E124
      have f132 := g123.ext E124
      have g_b124 := Nat.le_trans Z115 (Nat.le_of_eq gq124.symm)
      have Z124 := Nat.le_trans Z115 E124.1
      have f133 : Fl1 Z h124 b124 .null := D124 (Or.inr (tw6 hw)) (ty := (.array .byte)) (by decide)
      have f134 : Fl0 Z h124 b124 (.int 0) := D124 (Or.inr (tw7 hw)) (ty := .byte) (by decide)
      refine DoneW.step st124 ?_
      show DoneW p e below s _ _ _ (T124.setTop (mkF m 72 #[vi p1, vi p2, vi p3, vi p4, vi p5, vi x101, vi x102, vi x103, vi x104, vi x105, vu, vu, vr b108, vu] [(.ref b124)]))
      refine DoneW.step (fun t k => XS.dup X124.here hx rfl (hb hby at_72) rfl rfl k) ?_
      show DoneW p e below s _ _ _ (T124.setTop (mkF m 73 #[vi p1, vi p2, vi p3, vi p4, vi p5, vi x101, vi x102, vi x103, vi x104, vi x105, vu, vu, vr b108, vu] [(.ref b124), (.ref b124)]))
      refine DoneW.step (fun t k => XS.aload X124.here hx rfl (hb hby at_73) rfl rfl k) ?_
      show DoneW p e below s _ _ _ (T124.setTop (mkF m 75 #[vi p1, vi p2, vi p3, vi p4, vi p5, vi x101, vi x102, vi x103, vi x104, vi x105, vu, vu, vr b108, vu] [(.ref b108), (.ref b124), (.ref b124)]))
      obtain ⟨v135, _, ⟨T135, L135, k135, n135⟩, -, X135, ⟨Lc135, hQ135, l135, y135, z135⟩, st135⟩ := X124.specialBack hx (y := (⟨"java/lang/String", "<init>", "([C)V"⟩ : MethodName)) rfl hown (mvT hZ (tw22 hw)) (mvT hZ (tw23 hw)) (mvT hZ (tw24 hw)) (by decide) (backOf (W := 1) (rm3 l Z a0 hw [] b124 b108 ([x101] : List Int32) cs (1 : Int32) h124 n0 Z124 A124 f133 f134 g_b124 f131 f132 f126 f128 f129 f130 hcs (by rfl) (by exact Nat.le_of_ble_eq_true rfl) (by exact Nat.le_of_ble_eq_true rfl) (own_r1 hr5) ne125) hZ (tw24 hw) (tw3 hw) (by decide) (by decide)) (g := (mkF m 75 #[vi p1, vi p2, vi p3, vi p4, vi p5, vi x101, vi x102, vi x103, vi x104, vi x105, vu, vu, vr b108, vu] [(.ref b108), (.ref b124), (.ref b124)])) rfl (by rw [hml]; rfl) (Steps.refl _) (a := b124) (argsL := [(.ref b108)]) (rest := [(.ref b124)]) (lenOf pd_18 rfl) rfl (by show 2 * 0 + _ ≤ _; exact Nat.le_of_eq rfl) (hb hby at_75) (fun _ _ => ⟨rfl, e124, (by decide : 2 + 2 ≤ _), (by decide : 5 + 195 ≤ _)⟩)
      dsimp only [Pt.U, Pt.locs, Pt.cells, Pt.slots] at X135 l135 y135 z135 st135 hQ135
      subst l135 y135 z135
      refine DoneW.far st135 ?_
      obtain ⟨rfl, N135q, K135q, xE135, vb135, kk135, vs135, mI135, nI135, xF135, xG135, xA135, hD135⟩ := hQ135
      have N135 := Fr.app N115 N135q
      have f136 := own_stakeep f126 K135q (allS (own_unst A124) all0)
      have f137 := own_stakeep f127 K135q (allS (own_unst A124) all0)
      have f138 := own_stakeep f128 K135q (allS (own_unst A124) all0)
      have f139 := own_stakeep f129 K135q (allS (own_unst A124) all0)
      have f140 := own_stakeep f130 K135q (allS (own_unst A124) all0)
      have f141 := f131.keep K135q
      have f142 := f132.keep K135q (ninS ne125 nin0)
      have f143 := A124.keep K135q
      have Zk135 := Nat.le_trans Z124 K135q.1
      show DoneW p e below s _ _ _ (T135.setTop (mkF m 78 #[vi p1, vi p2, vi p3, vi p4, vi p5, vi x101, vi x102, vi x103, vi x104, vi x105, vu, vu, vr b108, vu] [(.ref b124)]))
      refine DoneW.step (fun t k => XS.astore X135.here hx rfl (hb hby at_78) rfl rfl (l' := #[vi p1, vi p2, vi p3, vi p4, vi p5, vi x101, vi x102, vi x103, vi x104, vi x105, vr b124, vu, vr b108, vu]) rfl k) ?_
      show DoneW p e below s _ _ _ (T135.setTop (mkF m 80 #[vi p1, vi p2, vi p3, vi p4, vi p5, vi x101, vi x102, vi x103, vi x104, vi x105, vr b124, vu, vr b108, vu] []))
      refine DoneW.step (fun t k => XS.iload X135.here hx rfl (hb hby at_80) rfl k) ?_
      show DoneW p e below s _ _ _ (T135.setTop (mkF m 82 #[vi p1, vi p2, vi p3, vi p4, vi p5, vi x101, vi x102, vi x103, vi x104, vi x105, vr b124, vu, vr b108, vu] [(.int x101)]))
      obtain ⟨v144, _, ⟨T144, L144, k144, n144⟩, -, X144, ⟨Lc144, hQ144, l144, y144, z144⟩, st144⟩ := Jvm.LawKit.callS X135 hx (y := (⟨"com/example/stowage/stowage/model/NamesIsNamePinLaw", "ok", "(C)Z"⟩ : MethodName)) hown (mvT hZ (tw44 hw)) (mvT hZ (tw45 hw)) (mvT hZ (tw46 hw)) (mvT hZ (tw47 hw)) (by decide) (backOf (W := 0) (rm9 l Z a0 hw [] x101 T135.heap n0 Zk135 ) hZ (tw47 hw) (tw46 hw) (by decide) (by decide)) (g := (mkF m 82 #[vi p1, vi p2, vi p3, vi p4, vi p5, vi x101, vi x102, vi x103, vi x104, vi x105, vr b124, vu, vr b108, vu] [(.int x101)])) rfl (by rw [hml]; rfl) (argsL := [(.int x101)]) (rest := []) (lenOf pd_19 rfl) rfl (by show 2 * 0 + _ ≤ _; exact Nat.le_of_eq rfl) (hb hby at_82) (fun _ _ => ⟨rfl, rfl, (by decide : 4 + 0 ≤ _), (by decide : 200 + 0 ≤ _)⟩)
      dsimp only [Pt.U, Pt.locs, Pt.cells, Pt.slots] at X144 l144 y144 z144 st144 hQ144
      subst l144 y144 z144
      refine DoneW.step st144 ?_
      obtain ⟨rfl, N144q, e144⟩ := hQ144
      have N144 := Fr.app N135 N144q
      show DoneW p e below s _ _ _ (T144.setTop (mkF m 85 #[vi p1, vi p2, vi p3, vi p4, vi p5, vi x101, vi x102, vi x103, vi x104, vi x105, vr b124, vu, vr b108, vu] [(.int (F9 x101))]))
      generalize dx145 : (F9 x101) = x145
      show DoneW p e below s _ _ _ (T144.setTop (mkF m 85 #[vi p1, vi p2, vi p3, vi p4, vi p5, vi x101, vi x102, vi x103, vi x104, vi x105, vr b124, vu, vr b108, vu] [(.int x145)]))
      refine DoneW.step (fun t k => XS.istore X144.here hx rfl (hb hby at_85) rfl (l' := #[vi p1, vi p2, vi p3, vi p4, vi p5, vi x101, vi x102, vi x103, vi x104, vi x105, vr b124, vi x145, vr b108, vu]) rfl k) ?_
      show DoneW p e below s _ _ _ (T144.setTop (mkF m 87 #[vi p1, vi p2, vi p3, vi p4, vi p5, vi x101, vi x102, vi x103, vi x104, vi x105, vr b124, vi x145, vr b108, vu] []))
      refine DoneW.step (fun t k => XS.goto X144.here hx rfl (pc0 := 87) (pc' := 1130) rfl (hb hby at_87) (by decide) (by decide) k) ?_
      show DoneW p e below s _ _ _ (T144.setTop (mkF m 1130 #[vi p1, vi p2, vi p3, vi p4, vi p5, vi x101, vi x102, vi x103, vi x104, vi x105, vr b124, vi x145, vr b108, vu] []))
      exact blk1130 p1 p2 p3 p4 p5 x101 x102 x103 x104 x105 b124 x145 (vr b108 : Slot) (.unset : Slot) vb135 kk135 vs135 mI135 nI135 cs sv ([x101] : List Int32) (X144.mono (by decide) (by decide)) hx hZ hw hby hml hown hlk hret hnm N144 Zk135 e144 f143 xF135 xG135 xA135 hD135 f136 f137 hsv f138 f139 f140 hcs (own_mz hD135 (by exact Nat.le_of_ble_eq_true rfl)) ((own_in hD135.2.2.2.1 (by exact Nat.le_of_ble_eq_true rfl)).trans ((own_mo1 _).trans dx145))
    · refine DoneW.step (fun t k => XS.icmpYes X0.here hx rfl (pc0 := 56) (pc' := 90) rfl (hb hby at_56) rfl (feq c2).2 (by decide) (by decide) k) ?_
      show DoneW p e below s _ _ _ (s₁.setTop (mkF m 90 #[vi p1, vi p2, vi p3, vi p4, vi p5, vi x101, vi x102, vi x103, vi x104, vi x105, vu, vu, vu, vu] []))
      refine DoneW.step (fun t k => XS.iload X0.here hx rfl (hb hby at_90) rfl k) ?_
      show DoneW p e below s _ _ _ (s₁.setTop (mkF m 92 #[vi p1, vi p2, vi p3, vi p4, vi p5, vi x101, vi x102, vi x103, vi x104, vi x105, vu, vu, vu, vu] [(.int x105)]))
      refine DoneW.step (fun t k => XS.iconst X0.here hx rfl (hb hby at_92) k) ?_
      show DoneW p e below s _ _ _ (s₁.setTop (mkF m 93 #[vi p1, vi p2, vi p3, vi p4, vi p5, vi x101, vi x102, vi x103, vi x104, vi x105, vu, vu, vu, vu] [(.int 2), (.int x105)]))
      by_cases c3 : x105 = (2 : Int32)
      · refine DoneW.step (fun t k => XS.icmpNo X0.here hx rfl (hb hby at_93) rfl (teq c3).2 k) ?_
        show DoneW p e below s _ _ _ (s₁.setTop (mkF m 96 #[vi p1, vi p2, vi p3, vi p4, vi p5, vi x101, vi x102, vi x103, vi x104, vi x105, vu, vu, vu, vu] []))
        refine DoneW.step (fun t k => XS.iconst X0.here hx rfl (hb hby at_96) k) ?_
        show DoneW p e below s _ _ _ (s₁.setTop (mkF m 97 #[vi p1, vi p2, vi p3, vi p4, vi p5, vi x101, vi x102, vi x103, vi x104, vi x105, vu, vu, vu, vu] [(.int 2)]))
        obtain ⟨T146, h146, k146, X146, e146, E146, A146, B146, st146⟩ := newPE X0 hx hZ (hw _ (List.mem_of_getElem? (i := 20) rfl)) e0 (g := (mkF m 97 #[vi p1, vi p2, vi p3, vi p4, vi p5, vi x101, vi x102, vi x103, vi x104, vi x105, vu, vu, vu, vu] [(.int 2)])) rfl (hb hby at_97) rfl (by decide) (cap := 2) (by decide) (by decide) (by decide) (by decide) (ad := "[C") (by decide)
        obtain ⟨b146, gq146⟩ : ∃ z, z = h0.size := ⟨_, rfl⟩
        rw [← gq146] at A146 B146 st146
        have f147 := Scs.ext E146
        have f148 := Ssx.ext E146
        have f149 := Sad.ext E146
        have f150 := Shi.ext E146
        have f151 := Slo.ext E146
        have g_b146 := Nat.le_trans Z0 (Nat.le_of_eq gq146.symm)
        have Z146 := Nat.le_trans Z0 E146.1
        have f152 : Ax Z h146 b146 .char [(.int 0), (.int 0)] := Ax.new (ty := .char) (i := 2) A146 (by decide)
        refine DoneW.step st146 ?_
        show DoneW p e below s _ _ _ (T146.setTop (mkF m 99 #[vi p1, vi p2, vi p3, vi p4, vi p5, vi x101, vi x102, vi x103, vi x104, vi x105, vu, vu, vu, vu] [(.ref b146)]))
        refine DoneW.step (fun t k => XS.dup X146.here hx rfl (hb hby at_99) rfl rfl k) ?_
        show DoneW p e below s _ _ _ (T146.setTop (mkF m 100 #[vi p1, vi p2, vi p3, vi p4, vi p5, vi x101, vi x102, vi x103, vi x104, vi x105, vu, vu, vu, vu] [(.ref b146), (.ref b146)]))
        refine DoneW.step (fun t k => XS.iconst X146.here hx rfl (hb hby at_100) k) ?_
        show DoneW p e below s _ _ _ (T146.setTop (mkF m 101 #[vi p1, vi p2, vi p3, vi p4, vi p5, vi x101, vi x102, vi x103, vi x104, vi x105, vu, vu, vu, vu] [(.int 0), (.ref b146), (.ref b146)]))
        refine DoneW.step (fun t k => XS.iload X146.here hx rfl (hb hby at_101) rfl k) ?_
        show DoneW p e below s _ _ _ (T146.setTop (mkF m 103 #[vi p1, vi p2, vi p3, vi p4, vi p5, vi x101, vi x102, vi x103, vi x104, vi x105, vu, vu, vu, vu] [(.int x101), (.int 0), (.ref b146), (.ref b146)]))
        obtain ⟨T153, h153, X153, e153, W153, A153, st153⟩ := stoC X146 hx hZ e146 f152 (j := (0 : Int32)) (by decide) (i := 0) (by decide) (Nat.le_of_ble_eq_true rfl) (g := (mkF m 103 #[vi p1, vi p2, vi p3, vi p4, vi p5, vi x101, vi x102, vi x103, vi x104, vi x105, vu, vu, vu, vu] [(.int x101), (.int 0), (.ref b146), (.ref b146)])) rfl rfl (hb hby at_103)
        have f154 := f147.wr W153
        have f155 := f148.wr W153
        have f156 := f149.wr W153
        have f157 := f150.wr W153
        have f158 := f151.wr W153
        have f159 := B146.wr W153
        have f160 : Ax Z h153 b146 .char [(.int (nar .char x101)), (.int 0)] := A153
        have Z153 := Nat.le_trans Z146 (Keep.of_wr W153).1
        have N153 := Fr.snoc X153 N0 g_b146
        refine DoneW.step st153 ?_
        show DoneW p e below s _ _ _ (T153.setTop (mkF m 104 #[vi p1, vi p2, vi p3, vi p4, vi p5, vi x101, vi x102, vi x103, vi x104, vi x105, vu, vu, vu, vu] [(.ref b146)]))
        refine DoneW.step (fun t k => XS.dup X153.here hx rfl (hb hby at_104) rfl rfl k) ?_
        show DoneW p e below s _ _ _ (T153.setTop (mkF m 105 #[vi p1, vi p2, vi p3, vi p4, vi p5, vi x101, vi x102, vi x103, vi x104, vi x105, vu, vu, vu, vu] [(.ref b146), (.ref b146)]))
        refine DoneW.step (fun t k => XS.iconst X153.here hx rfl (hb hby at_105) k) ?_
        show DoneW p e below s _ _ _ (T153.setTop (mkF m 106 #[vi p1, vi p2, vi p3, vi p4, vi p5, vi x101, vi x102, vi x103, vi x104, vi x105, vu, vu, vu, vu] [(.int 1), (.ref b146), (.ref b146)]))
        refine DoneW.step (fun t k => XS.iload X153.here hx rfl (hb hby at_106) rfl k) ?_
        show DoneW p e below s _ _ _ (T153.setTop (mkF m 108 #[vi p1, vi p2, vi p3, vi p4, vi p5, vi x101, vi x102, vi x103, vi x104, vi x105, vu, vu, vu, vu] [(.int x102), (.int 1), (.ref b146), (.ref b146)]))
        obtain ⟨T161, h161, X161, e161, W161, A161, st161⟩ := stoC X153 hx hZ e153 f160 (j := (1 : Int32)) (by decide) (i := 1) (by decide) (Nat.le_of_ble_eq_true rfl) (g := (mkF m 108 #[vi p1, vi p2, vi p3, vi p4, vi p5, vi x101, vi x102, vi x103, vi x104, vi x105, vu, vu, vu, vu] [(.int x102), (.int 1), (.ref b146), (.ref b146)])) rfl rfl (hb hby at_108)
        have f162 := f154.wr W161
        have f163 := f155.wr W161
        have f164 := f156.wr W161
        have f165 := f157.wr W161
        have f166 := f158.wr W161
        have f167 := f159.wr W161
        have f168 : Ax Z h161 b146 .char [(.int (nar .char x101)), (.int (nar .char x102))] := A161
        have Z161 := Nat.le_trans Z153 (Keep.of_wr W161).1
        have N161 := Fr.snoc X161 N153 g_b146
        refine DoneW.step st161 ?_
        show DoneW p e below s _ _ _ (T161.setTop (mkF m 109 #[vi p1, vi p2, vi p3, vi p4, vi p5, vi x101, vi x102, vi x103, vi x104, vi x105, vu, vu, vu, vu] [(.ref b146)]))
        refine DoneW.step (fun t k => XS.astore X161.here hx rfl (hb hby at_109) rfl rfl (l' := #[vi p1, vi p2, vi p3, vi p4, vi p5, vi x101, vi x102, vi x103, vi x104, vi x105, vu, vu, vr b146, vu]) rfl k) ?_
        show DoneW p e below s _ _ _ (T161.setTop (mkF m 111 #[vi p1, vi p2, vi p3, vi p4, vi p5, vi x101, vi x102, vi x103, vi x104, vi x105, vu, vu, vr b146, vu] []))
        have g169 : Ax Z h161 b146 .char (([x101, x102] : List Int32).map Value.int) := by have q := f168; rw [hc5, hc6] at q; exact q
        obtain ⟨T170, h170, X170, e170, E170, A170, D170, -, st170⟩ := newO X161 hx hZ hown (tw21 hw) (tw4 hw) (tw3 hw) e161 (g := (mkF m 111 #[vi p1, vi p2, vi p3, vi p4, vi p5, vi x101, vi x102, vi x103, vi x104, vi x105, vu, vu, vr b146, vu] [])) rfl (hb hby at_111) (by decide) (by decide)
        obtain ⟨b170, gq170⟩ : ∃ z, z = h161.size := ⟨_, rfl⟩
        rw [← gq170] at A170 D170 st170
        have ne171 := Nat.ne_of_lt (Nat.lt_of_lt_of_le f167.lt (Nat.le_of_eq gq170.symm))
        have f172 := f162.ext E170
        have f173 := f163.ext E170
        have f174 := f164.ext E170
        have f175 := f165.ext E170
        have f176 := f166.ext E170
        have f177 := f167.ext E170
        have f178 := g169.ext E170
        have g_b170 := Nat.le_trans Z161 (Nat.le_of_eq gq170.symm)
        have Z170 := Nat.le_trans Z161 E170.1
        have f179 : Fl1 Z h170 b170 .null := D170 (Or.inr (tw6 hw)) (ty := (.array .byte)) (by decide)
        have f180 : Fl0 Z h170 b170 (.int 0) := D170 (Or.inr (tw7 hw)) (ty := .byte) (by decide)
        refine DoneW.step st170 ?_
        show DoneW p e below s _ _ _ (T170.setTop (mkF m 114 #[vi p1, vi p2, vi p3, vi p4, vi p5, vi x101, vi x102, vi x103, vi x104, vi x105, vu, vu, vr b146, vu] [(.ref b170)]))
        refine DoneW.step (fun t k => XS.dup X170.here hx rfl (hb hby at_114) rfl rfl k) ?_
        show DoneW p e below s _ _ _ (T170.setTop (mkF m 115 #[vi p1, vi p2, vi p3, vi p4, vi p5, vi x101, vi x102, vi x103, vi x104, vi x105, vu, vu, vr b146, vu] [(.ref b170), (.ref b170)]))
        refine DoneW.step (fun t k => XS.aload X170.here hx rfl (hb hby at_115) rfl rfl k) ?_
        show DoneW p e below s _ _ _ (T170.setTop (mkF m 117 #[vi p1, vi p2, vi p3, vi p4, vi p5, vi x101, vi x102, vi x103, vi x104, vi x105, vu, vu, vr b146, vu] [(.ref b146), (.ref b170), (.ref b170)]))
        obtain ⟨v181, _, ⟨T181, L181, k181, n181⟩, -, X181, ⟨Lc181, hQ181, l181, y181, z181⟩, st181⟩ := X170.specialBack hx (y := (⟨"java/lang/String", "<init>", "([C)V"⟩ : MethodName)) rfl hown (mvT hZ (tw22 hw)) (mvT hZ (tw23 hw)) (mvT hZ (tw24 hw)) (by decide) (backOf (W := 1) (rm3 l Z a0 hw [] b170 b146 ([x101, x102] : List Int32) cs (2 : Int32) h170 n0 Z170 A170 f179 f180 g_b170 f177 f178 f172 f174 f175 f176 hcs (by rfl) (by exact Nat.le_of_ble_eq_true rfl) (by exact Nat.le_of_ble_eq_true rfl) (own_r2 hr5 hr6) ne171) hZ (tw24 hw) (tw3 hw) (by decide) (by decide)) (g := (mkF m 117 #[vi p1, vi p2, vi p3, vi p4, vi p5, vi x101, vi x102, vi x103, vi x104, vi x105, vu, vu, vr b146, vu] [(.ref b146), (.ref b170), (.ref b170)])) rfl (by rw [hml]; rfl) (Steps.refl _) (a := b170) (argsL := [(.ref b146)]) (rest := [(.ref b170)]) (lenOf pd_18 rfl) rfl (by show 2 * 0 + _ ≤ _; exact Nat.le_of_eq rfl) (hb hby at_117) (fun _ _ => ⟨rfl, e170, (by decide : 2 + 2 ≤ _), (by decide : 6 + 195 ≤ _)⟩)
        dsimp only [Pt.U, Pt.locs, Pt.cells, Pt.slots] at X181 l181 y181 z181 st181 hQ181
        subst l181 y181 z181
        refine DoneW.far st181 ?_
        obtain ⟨rfl, N181q, K181q, xE181, vb181, kk181, vs181, mI181, nI181, xF181, xG181, xA181, hD181⟩ := hQ181
        have N181 := Fr.app N161 N181q
        have f182 := own_stakeep f172 K181q (allS (own_unst A170) all0)
        have f183 := own_stakeep f173 K181q (allS (own_unst A170) all0)
        have f184 := own_stakeep f174 K181q (allS (own_unst A170) all0)
        have f185 := own_stakeep f175 K181q (allS (own_unst A170) all0)
        have f186 := own_stakeep f176 K181q (allS (own_unst A170) all0)
        have f187 := f177.keep K181q
        have f188 := f178.keep K181q (ninS ne171 nin0)
        have f189 := A170.keep K181q
        have Zk181 := Nat.le_trans Z170 K181q.1
        show DoneW p e below s _ _ _ (T181.setTop (mkF m 120 #[vi p1, vi p2, vi p3, vi p4, vi p5, vi x101, vi x102, vi x103, vi x104, vi x105, vu, vu, vr b146, vu] [(.ref b170)]))
        refine DoneW.step (fun t k => XS.astore X181.here hx rfl (hb hby at_120) rfl rfl (l' := #[vi p1, vi p2, vi p3, vi p4, vi p5, vi x101, vi x102, vi x103, vi x104, vi x105, vr b170, vu, vr b146, vu]) rfl k) ?_
        show DoneW p e below s _ _ _ (T181.setTop (mkF m 122 #[vi p1, vi p2, vi p3, vi p4, vi p5, vi x101, vi x102, vi x103, vi x104, vi x105, vr b170, vu, vr b146, vu] []))
        refine DoneW.step (fun t k => XS.iload X181.here hx rfl (hb hby at_122) rfl k) ?_
        show DoneW p e below s _ _ _ (T181.setTop (mkF m 124 #[vi p1, vi p2, vi p3, vi p4, vi p5, vi x101, vi x102, vi x103, vi x104, vi x105, vr b170, vu, vr b146, vu] [(.int x101)]))
        obtain ⟨v190, _, ⟨T190, L190, k190, n190⟩, -, X190, ⟨Lc190, hQ190, l190, y190, z190⟩, st190⟩ := Jvm.LawKit.callS X181 hx (y := (⟨"com/example/stowage/stowage/model/NamesIsNamePinLaw", "ok", "(C)Z"⟩ : MethodName)) hown (mvT hZ (tw44 hw)) (mvT hZ (tw45 hw)) (mvT hZ (tw46 hw)) (mvT hZ (tw47 hw)) (by decide) (backOf (W := 0) (rm9 l Z a0 hw [] x101 T181.heap n0 Zk181 ) hZ (tw47 hw) (tw46 hw) (by decide) (by decide)) (g := (mkF m 124 #[vi p1, vi p2, vi p3, vi p4, vi p5, vi x101, vi x102, vi x103, vi x104, vi x105, vr b170, vu, vr b146, vu] [(.int x101)])) rfl (by rw [hml]; rfl) (argsL := [(.int x101)]) (rest := []) (lenOf pd_19 rfl) rfl (by show 2 * 0 + _ ≤ _; exact Nat.le_of_eq rfl) (hb hby at_124) (fun _ _ => ⟨rfl, rfl, (by decide : 4 + 0 ≤ _), (by decide : 201 + 0 ≤ _)⟩)
        dsimp only [Pt.U, Pt.locs, Pt.cells, Pt.slots] at X190 l190 y190 z190 st190 hQ190
        subst l190 y190 z190
        refine DoneW.step st190 ?_
        obtain ⟨rfl, N190q, e190⟩ := hQ190
        have N190 := Fr.app N181 N190q
        show DoneW p e below s _ _ _ (T190.setTop (mkF m 127 #[vi p1, vi p2, vi p3, vi p4, vi p5, vi x101, vi x102, vi x103, vi x104, vi x105, vr b170, vu, vr b146, vu] [(.int (F9 x101))]))
        by_cases c4 : (F9 x101) = (0 : Int32)
        · refine DoneW.step (fun t k => XS.ifYes X190.here hx rfl (pc0 := 127) (pc' := 142) rfl (hb hby at_127) rfl ((if0 _ _).trans (teq c4).1) (by decide) (by decide) k) ?_
          show DoneW p e below s _ _ _ (T190.setTop (mkF m 142 #[vi p1, vi p2, vi p3, vi p4, vi p5, vi x101, vi x102, vi x103, vi x104, vi x105, vr b170, vu, vr b146, vu] []))
          refine DoneW.step (fun t k => XS.iconst X190.here hx rfl (hb hby at_142) k) ?_
          show DoneW p e below s _ _ _ (T190.setTop (mkF m 143 #[vi p1, vi p2, vi p3, vi p4, vi p5, vi x101, vi x102, vi x103, vi x104, vi x105, vr b170, vu, vr b146, vu] [(.int 0)]))
          refine DoneW.step (fun t k => XS.istore X190.here hx rfl (hb hby at_143) rfl (l' := #[vi p1, vi p2, vi p3, vi p4, vi p5, vi x101, vi x102, vi x103, vi x104, vi x105, vr b170, vi 0, vr b146, vu]) rfl k) ?_
          show DoneW p e below s _ _ _ (T190.setTop (mkF m 145 #[vi p1, vi p2, vi p3, vi p4, vi p5, vi x101, vi x102, vi x103, vi x104, vi x105, vr b170, vi 0, vr b146, vu] []))
          refine DoneW.step (fun t k => XS.goto X190.here hx rfl (pc0 := 145) (pc' := 1130) rfl (hb hby at_145) (by decide) (by decide) k) ?_
          show DoneW p e below s _ _ _ (T190.setTop (mkF m 1130 #[vi p1, vi p2, vi p3, vi p4, vi p5, vi x101, vi x102, vi x103, vi x104, vi x105, vr b170, vi 0, vr b146, vu] []))
          exact blk1130 p1 p2 p3 p4 p5 x101 x102 x103 x104 x105 b170 (0 : Int32) (vr b146 : Slot) (.unset : Slot) vb181 kk181 vs181 mI181 nI181 cs sv ([x101, x102] : List Int32) (X190.mono (by decide) (by decide)) hx hZ hw hby hml hown hlk hret hnm N190 Zk181 e190 f189 xF181 xG181 xA181 hD181 f182 f183 hsv f184 f185 f186 hcs (own_mz hD181 (by exact Nat.le_of_ble_eq_true rfl)) ((own_in hD181.2.2.2.1 (by exact Nat.le_of_ble_eq_true rfl)).trans (own_moF _ x101 (by simp) c4))
        · refine DoneW.step (fun t k => XS.ifNo X190.here hx rfl (hb hby at_127) rfl ((if0 _ _).trans (feq c4).1) k) ?_
          show DoneW p e below s _ _ _ (T190.setTop (mkF m 130 #[vi p1, vi p2, vi p3, vi p4, vi p5, vi x101, vi x102, vi x103, vi x104, vi x105, vr b170, vu, vr b146, vu] []))
          refine DoneW.step (fun t k => XS.iload X190.here hx rfl (hb hby at_130) rfl k) ?_
          show DoneW p e below s _ _ _ (T190.setTop (mkF m 132 #[vi p1, vi p2, vi p3, vi p4, vi p5, vi x101, vi x102, vi x103, vi x104, vi x105, vr b170, vu, vr b146, vu] [(.int x102)]))
          obtain ⟨v191, _, ⟨T191, L191, k191, n191⟩, -, X191, ⟨Lc191, hQ191, l191, y191, z191⟩, st191⟩ := Jvm.LawKit.callS X190 hx (y := (⟨"com/example/stowage/stowage/model/NamesIsNamePinLaw", "ok", "(C)Z"⟩ : MethodName)) hown (mvT hZ (tw44 hw)) (mvT hZ (tw45 hw)) (mvT hZ (tw46 hw)) (mvT hZ (tw47 hw)) (by decide) (backOf (W := 0) (rm9 l Z a0 hw [] x102 T181.heap n0 Zk181 ) hZ (tw47 hw) (tw46 hw) (by decide) (by decide)) (g := (mkF m 132 #[vi p1, vi p2, vi p3, vi p4, vi p5, vi x101, vi x102, vi x103, vi x104, vi x105, vr b170, vu, vr b146, vu] [(.int x102)])) rfl (by rw [hml]; rfl) (argsL := [(.int x102)]) (rest := []) (lenOf pd_19 rfl) rfl (by show 2 * 0 + _ ≤ _; exact Nat.le_of_eq rfl) (hb hby at_132) (fun _ _ => ⟨rfl, e190, (by decide : 4 + 0 ≤ _), (by decide : 201 + 0 ≤ _)⟩)
          dsimp only [Pt.U, Pt.locs, Pt.cells, Pt.slots] at X191 l191 y191 z191 st191 hQ191
          subst l191 y191 z191
          refine DoneW.step st191 ?_
          obtain ⟨rfl, N191q, e191⟩ := hQ191
          have N191 := Fr.app N190 N191q
          show DoneW p e below s _ _ _ (T191.setTop (mkF m 135 #[vi p1, vi p2, vi p3, vi p4, vi p5, vi x101, vi x102, vi x103, vi x104, vi x105, vr b170, vu, vr b146, vu] [(.int (F9 x102))]))
          by_cases c5 : (F9 x102) = (0 : Int32)
          · refine DoneW.step (fun t k => XS.ifYes X191.here hx rfl (pc0 := 135) (pc' := 142) rfl (hb hby at_135) rfl ((if0 _ _).trans (teq c5).1) (by decide) (by decide) k) ?_
            show DoneW p e below s _ _ _ (T191.setTop (mkF m 142 #[vi p1, vi p2, vi p3, vi p4, vi p5, vi x101, vi x102, vi x103, vi x104, vi x105, vr b170, vu, vr b146, vu] []))
            refine DoneW.step (fun t k => XS.iconst X191.here hx rfl (hb hby at_142) k) ?_
            show DoneW p e below s _ _ _ (T191.setTop (mkF m 143 #[vi p1, vi p2, vi p3, vi p4, vi p5, vi x101, vi x102, vi x103, vi x104, vi x105, vr b170, vu, vr b146, vu] [(.int 0)]))
            refine DoneW.step (fun t k => XS.istore X191.here hx rfl (hb hby at_143) rfl (l' := #[vi p1, vi p2, vi p3, vi p4, vi p5, vi x101, vi x102, vi x103, vi x104, vi x105, vr b170, vi 0, vr b146, vu]) rfl k) ?_
            show DoneW p e below s _ _ _ (T191.setTop (mkF m 145 #[vi p1, vi p2, vi p3, vi p4, vi p5, vi x101, vi x102, vi x103, vi x104, vi x105, vr b170, vi 0, vr b146, vu] []))
            refine DoneW.step (fun t k => XS.goto X191.here hx rfl (pc0 := 145) (pc' := 1130) rfl (hb hby at_145) (by decide) (by decide) k) ?_
            show DoneW p e below s _ _ _ (T191.setTop (mkF m 1130 #[vi p1, vi p2, vi p3, vi p4, vi p5, vi x101, vi x102, vi x103, vi x104, vi x105, vr b170, vi 0, vr b146, vu] []))
            exact blk1130 p1 p2 p3 p4 p5 x101 x102 x103 x104 x105 b170 (0 : Int32) (vr b146 : Slot) (.unset : Slot) vb181 kk181 vs181 mI181 nI181 cs sv ([x101, x102] : List Int32) (X191.mono (by decide) (by decide)) hx hZ hw hby hml hown hlk hret hnm N191 Zk181 e191 f189 xF181 xG181 xA181 hD181 f182 f183 hsv f184 f185 f186 hcs (own_mz hD181 (by exact Nat.le_of_ble_eq_true rfl)) ((own_in hD181.2.2.2.1 (by exact Nat.le_of_ble_eq_true rfl)).trans (own_moF _ x102 (by simp) c5))
          · refine DoneW.step (fun t k => XS.ifNo X191.here hx rfl (hb hby at_135) rfl ((if0 _ _).trans (feq c5).1) k) ?_
            show DoneW p e below s _ _ _ (T191.setTop (mkF m 138 #[vi p1, vi p2, vi p3, vi p4, vi p5, vi x101, vi x102, vi x103, vi x104, vi x105, vr b170, vu, vr b146, vu] []))
            refine DoneW.step (fun t k => XS.iconst X191.here hx rfl (hb hby at_138) k) ?_
            show DoneW p e below s _ _ _ (T191.setTop (mkF m 139 #[vi p1, vi p2, vi p3, vi p4, vi p5, vi x101, vi x102, vi x103, vi x104, vi x105, vr b170, vu, vr b146, vu] [(.int 1)]))
            refine DoneW.step (fun t k => XS.goto X191.here hx rfl (pc0 := 139) (pc' := 143) rfl (hb hby at_139) (by decide) (by decide) k) ?_
            show DoneW p e below s _ _ _ (T191.setTop (mkF m 143 #[vi p1, vi p2, vi p3, vi p4, vi p5, vi x101, vi x102, vi x103, vi x104, vi x105, vr b170, vu, vr b146, vu] [(.int 1)]))
            refine DoneW.step (fun t k => XS.istore X191.here hx rfl (hb hby at_143) rfl (l' := #[vi p1, vi p2, vi p3, vi p4, vi p5, vi x101, vi x102, vi x103, vi x104, vi x105, vr b170, vi 1, vr b146, vu]) rfl k) ?_
            show DoneW p e below s _ _ _ (T191.setTop (mkF m 145 #[vi p1, vi p2, vi p3, vi p4, vi p5, vi x101, vi x102, vi x103, vi x104, vi x105, vr b170, vi 1, vr b146, vu] []))
            refine DoneW.step (fun t k => XS.goto X191.here hx rfl (pc0 := 145) (pc' := 1130) rfl (hb hby at_145) (by decide) (by decide) k) ?_
            show DoneW p e below s _ _ _ (T191.setTop (mkF m 1130 #[vi p1, vi p2, vi p3, vi p4, vi p5, vi x101, vi x102, vi x103, vi x104, vi x105, vr b170, vi 1, vr b146, vu] []))
            exact blk1130 p1 p2 p3 p4 p5 x101 x102 x103 x104 x105 b170 (1 : Int32) (vr b146 : Slot) (.unset : Slot) vb181 kk181 vs181 mI181 nI181 cs sv ([x101, x102] : List Int32) (X191.mono (by decide) (by decide)) hx hZ hw hby hml hown hlk hret hnm N191 Zk181 e191 f189 xF181 xG181 xA181 hD181 f182 f183 hsv f184 f185 f186 hcs (own_mz hD181 (by exact Nat.le_of_ble_eq_true rfl)) ((own_in hD181.2.2.2.1 (by exact Nat.le_of_ble_eq_true rfl)).trans (own_moT _ (by simp only [List.mem_cons, List.not_mem_nil, or_false]; intro x hx; rcases hx with rfl | rfl <;> assumption)))
      · refine DoneW.step (fun t k => XS.icmpYes X0.here hx rfl (pc0 := 93) (pc' := 148) rfl (hb hby at_93) rfl (feq c3).2 (by decide) (by decide) k) ?_
        show DoneW p e below s _ _ _ (s₁.setTop (mkF m 148 #[vi p1, vi p2, vi p3, vi p4, vi p5, vi x101, vi x102, vi x103, vi x104, vi x105, vu, vu, vu, vu] []))
        refine DoneW.step (fun t k => XS.iload X0.here hx rfl (hb hby at_148) rfl k) ?_
        show DoneW p e below s _ _ _ (s₁.setTop (mkF m 150 #[vi p1, vi p2, vi p3, vi p4, vi p5, vi x101, vi x102, vi x103, vi x104, vi x105, vu, vu, vu, vu] [(.int x105)]))
        refine DoneW.step (fun t k => XS.iconst X0.here hx rfl (hb hby at_150) k) ?_
        show DoneW p e below s _ _ _ (s₁.setTop (mkF m 151 #[vi p1, vi p2, vi p3, vi p4, vi p5, vi x101, vi x102, vi x103, vi x104, vi x105, vu, vu, vu, vu] [(.int 3), (.int x105)]))
        by_cases c6 : x105 = (3 : Int32)
        · refine DoneW.step (fun t k => XS.icmpNo X0.here hx rfl (hb hby at_151) rfl (teq c6).2 k) ?_
          show DoneW p e below s _ _ _ (s₁.setTop (mkF m 154 #[vi p1, vi p2, vi p3, vi p4, vi p5, vi x101, vi x102, vi x103, vi x104, vi x105, vu, vu, vu, vu] []))
          refine DoneW.step (fun t k => XS.iconst X0.here hx rfl (hb hby at_154) k) ?_
          show DoneW p e below s _ _ _ (s₁.setTop (mkF m 155 #[vi p1, vi p2, vi p3, vi p4, vi p5, vi x101, vi x102, vi x103, vi x104, vi x105, vu, vu, vu, vu] [(.int 3)]))
          obtain ⟨T192, h192, k192, X192, e192, E192, A192, B192, st192⟩ := newPE X0 hx hZ (hw _ (List.mem_of_getElem? (i := 20) rfl)) e0 (g := (mkF m 155 #[vi p1, vi p2, vi p3, vi p4, vi p5, vi x101, vi x102, vi x103, vi x104, vi x105, vu, vu, vu, vu] [(.int 3)])) rfl (hb hby at_155) rfl (by decide) (cap := 3) (by decide) (by decide) (by decide) (by decide) (ad := "[C") (by decide)
          obtain ⟨b192, gq192⟩ : ∃ z, z = h0.size := ⟨_, rfl⟩
          rw [← gq192] at A192 B192 st192
          have f193 := Scs.ext E192
          have f194 := Ssx.ext E192
          have f195 := Sad.ext E192
          have f196 := Shi.ext E192
          have f197 := Slo.ext E192
          have g_b192 := Nat.le_trans Z0 (Nat.le_of_eq gq192.symm)
          have Z192 := Nat.le_trans Z0 E192.1
          have f198 : Ax Z h192 b192 .char [(.int 0), (.int 0), (.int 0)] := Ax.new (ty := .char) (i := 3) A192 (by decide)
          refine DoneW.step st192 ?_
          show DoneW p e below s _ _ _ (T192.setTop (mkF m 157 #[vi p1, vi p2, vi p3, vi p4, vi p5, vi x101, vi x102, vi x103, vi x104, vi x105, vu, vu, vu, vu] [(.ref b192)]))
          refine DoneW.step (fun t k => XS.dup X192.here hx rfl (hb hby at_157) rfl rfl k) ?_
          show DoneW p e below s _ _ _ (T192.setTop (mkF m 158 #[vi p1, vi p2, vi p3, vi p4, vi p5, vi x101, vi x102, vi x103, vi x104, vi x105, vu, vu, vu, vu] [(.ref b192), (.ref b192)]))
          refine DoneW.step (fun t k => XS.iconst X192.here hx rfl (hb hby at_158) k) ?_
          show DoneW p e below s _ _ _ (T192.setTop (mkF m 159 #[vi p1, vi p2, vi p3, vi p4, vi p5, vi x101, vi x102, vi x103, vi x104, vi x105, vu, vu, vu, vu] [(.int 0), (.ref b192), (.ref b192)]))
          refine DoneW.step (fun t k => XS.iload X192.here hx rfl (hb hby at_159) rfl k) ?_
          show DoneW p e below s _ _ _ (T192.setTop (mkF m 161 #[vi p1, vi p2, vi p3, vi p4, vi p5, vi x101, vi x102, vi x103, vi x104, vi x105, vu, vu, vu, vu] [(.int x101), (.int 0), (.ref b192), (.ref b192)]))
          obtain ⟨T199, h199, X199, e199, W199, A199, st199⟩ := stoC X192 hx hZ e192 f198 (j := (0 : Int32)) (by decide) (i := 0) (by decide) (Nat.le_of_ble_eq_true rfl) (g := (mkF m 161 #[vi p1, vi p2, vi p3, vi p4, vi p5, vi x101, vi x102, vi x103, vi x104, vi x105, vu, vu, vu, vu] [(.int x101), (.int 0), (.ref b192), (.ref b192)])) rfl rfl (hb hby at_161)
          have f200 := f193.wr W199
          have f201 := f194.wr W199
          have f202 := f195.wr W199
          have f203 := f196.wr W199
          have f204 := f197.wr W199
          have f205 := B192.wr W199
          have f206 : Ax Z h199 b192 .char [(.int (nar .char x101)), (.int 0), (.int 0)] := A199
          have Z199 := Nat.le_trans Z192 (Keep.of_wr W199).1
          have N199 := Fr.snoc X199 N0 g_b192
          refine DoneW.step st199 ?_
          show DoneW p e below s _ _ _ (T199.setTop (mkF m 162 #[vi p1, vi p2, vi p3, vi p4, vi p5, vi x101, vi x102, vi x103, vi x104, vi x105, vu, vu, vu, vu] [(.ref b192)]))
          refine DoneW.step (fun t k => XS.dup X199.here hx rfl (hb hby at_162) rfl rfl k) ?_
          show DoneW p e below s _ _ _ (T199.setTop (mkF m 163 #[vi p1, vi p2, vi p3, vi p4, vi p5, vi x101, vi x102, vi x103, vi x104, vi x105, vu, vu, vu, vu] [(.ref b192), (.ref b192)]))
          refine DoneW.step (fun t k => XS.iconst X199.here hx rfl (hb hby at_163) k) ?_
          show DoneW p e below s _ _ _ (T199.setTop (mkF m 164 #[vi p1, vi p2, vi p3, vi p4, vi p5, vi x101, vi x102, vi x103, vi x104, vi x105, vu, vu, vu, vu] [(.int 1), (.ref b192), (.ref b192)]))
          refine DoneW.step (fun t k => XS.iload X199.here hx rfl (hb hby at_164) rfl k) ?_
          show DoneW p e below s _ _ _ (T199.setTop (mkF m 166 #[vi p1, vi p2, vi p3, vi p4, vi p5, vi x101, vi x102, vi x103, vi x104, vi x105, vu, vu, vu, vu] [(.int x102), (.int 1), (.ref b192), (.ref b192)]))
          obtain ⟨T207, h207, X207, e207, W207, A207, st207⟩ := stoC X199 hx hZ e199 f206 (j := (1 : Int32)) (by decide) (i := 1) (by decide) (Nat.le_of_ble_eq_true rfl) (g := (mkF m 166 #[vi p1, vi p2, vi p3, vi p4, vi p5, vi x101, vi x102, vi x103, vi x104, vi x105, vu, vu, vu, vu] [(.int x102), (.int 1), (.ref b192), (.ref b192)])) rfl rfl (hb hby at_166)
          have f208 := f200.wr W207
          have f209 := f201.wr W207
          have f210 := f202.wr W207
          have f211 := f203.wr W207
          have f212 := f204.wr W207
          have f213 := f205.wr W207
          have f214 : Ax Z h207 b192 .char [(.int (nar .char x101)), (.int (nar .char x102)), (.int 0)] := A207
          have Z207 := Nat.le_trans Z199 (Keep.of_wr W207).1
          have N207 := Fr.snoc X207 N199 g_b192
          refine DoneW.step st207 ?_
          show DoneW p e below s _ _ _ (T207.setTop (mkF m 167 #[vi p1, vi p2, vi p3, vi p4, vi p5, vi x101, vi x102, vi x103, vi x104, vi x105, vu, vu, vu, vu] [(.ref b192)]))
          refine DoneW.step (fun t k => XS.dup X207.here hx rfl (hb hby at_167) rfl rfl k) ?_
          show DoneW p e below s _ _ _ (T207.setTop (mkF m 168 #[vi p1, vi p2, vi p3, vi p4, vi p5, vi x101, vi x102, vi x103, vi x104, vi x105, vu, vu, vu, vu] [(.ref b192), (.ref b192)]))
          refine DoneW.step (fun t k => XS.iconst X207.here hx rfl (hb hby at_168) k) ?_
          show DoneW p e below s _ _ _ (T207.setTop (mkF m 169 #[vi p1, vi p2, vi p3, vi p4, vi p5, vi x101, vi x102, vi x103, vi x104, vi x105, vu, vu, vu, vu] [(.int 2), (.ref b192), (.ref b192)]))
          refine DoneW.step (fun t k => XS.iload X207.here hx rfl (hb hby at_169) rfl k) ?_
          show DoneW p e below s _ _ _ (T207.setTop (mkF m 171 #[vi p1, vi p2, vi p3, vi p4, vi p5, vi x101, vi x102, vi x103, vi x104, vi x105, vu, vu, vu, vu] [(.int x103), (.int 2), (.ref b192), (.ref b192)]))
          obtain ⟨T215, h215, X215, e215, W215, A215, st215⟩ := stoC X207 hx hZ e207 f214 (j := (2 : Int32)) (by decide) (i := 2) (by decide) (Nat.le_of_ble_eq_true rfl) (g := (mkF m 171 #[vi p1, vi p2, vi p3, vi p4, vi p5, vi x101, vi x102, vi x103, vi x104, vi x105, vu, vu, vu, vu] [(.int x103), (.int 2), (.ref b192), (.ref b192)])) rfl rfl (hb hby at_171)
          have f216 := f208.wr W215
          have f217 := f209.wr W215
          have f218 := f210.wr W215
          have f219 := f211.wr W215
          have f220 := f212.wr W215
          have f221 := f213.wr W215
          have f222 : Ax Z h215 b192 .char [(.int (nar .char x101)), (.int (nar .char x102)), (.int (nar .char x103))] := A215
          have Z215 := Nat.le_trans Z207 (Keep.of_wr W215).1
          have N215 := Fr.snoc X215 N207 g_b192
          refine DoneW.step st215 ?_
          show DoneW p e below s _ _ _ (T215.setTop (mkF m 172 #[vi p1, vi p2, vi p3, vi p4, vi p5, vi x101, vi x102, vi x103, vi x104, vi x105, vu, vu, vu, vu] [(.ref b192)]))
          refine DoneW.step (fun t k => XS.astore X215.here hx rfl (hb hby at_172) rfl rfl (l' := #[vi p1, vi p2, vi p3, vi p4, vi p5, vi x101, vi x102, vi x103, vi x104, vi x105, vu, vu, vr b192, vu]) rfl k) ?_
          show DoneW p e below s _ _ _ (T215.setTop (mkF m 174 #[vi p1, vi p2, vi p3, vi p4, vi p5, vi x101, vi x102, vi x103, vi x104, vi x105, vu, vu, vr b192, vu] []))
          have g223 : Ax Z h215 b192 .char (([x101, x102, x103] : List Int32).map Value.int) := by have q := f222; rw [hc5, hc6, hc7] at q; exact q
          obtain ⟨T224, h224, X224, e224, E224, A224, D224, -, st224⟩ := newO X215 hx hZ hown (tw21 hw) (tw4 hw) (tw3 hw) e215 (g := (mkF m 174 #[vi p1, vi p2, vi p3, vi p4, vi p5, vi x101, vi x102, vi x103, vi x104, vi x105, vu, vu, vr b192, vu] [])) rfl (hb hby at_174) (by decide) (by decide)
          obtain ⟨b224, gq224⟩ : ∃ z, z = h215.size := ⟨_, rfl⟩
          rw [← gq224] at A224 D224 st224
          have ne225 := Nat.ne_of_lt (Nat.lt_of_lt_of_le f221.lt (Nat.le_of_eq gq224.symm))
          have f226 := f216.ext E224
          have f227 := f217.ext E224
          have f228 := f218.ext E224
          have f229 := f219.ext E224
          have f230 := f220.ext E224
          have f231 := f221.ext E224
          have f232 := g223.ext E224
          have g_b224 := Nat.le_trans Z215 (Nat.le_of_eq gq224.symm)
          have Z224 := Nat.le_trans Z215 E224.1
          have f233 : Fl1 Z h224 b224 .null := D224 (Or.inr (tw6 hw)) (ty := (.array .byte)) (by decide)
          have f234 : Fl0 Z h224 b224 (.int 0) := D224 (Or.inr (tw7 hw)) (ty := .byte) (by decide)
          refine DoneW.step st224 ?_
          show DoneW p e below s _ _ _ (T224.setTop (mkF m 177 #[vi p1, vi p2, vi p3, vi p4, vi p5, vi x101, vi x102, vi x103, vi x104, vi x105, vu, vu, vr b192, vu] [(.ref b224)]))
          refine DoneW.step (fun t k => XS.dup X224.here hx rfl (hb hby at_177) rfl rfl k) ?_
          show DoneW p e below s _ _ _ (T224.setTop (mkF m 178 #[vi p1, vi p2, vi p3, vi p4, vi p5, vi x101, vi x102, vi x103, vi x104, vi x105, vu, vu, vr b192, vu] [(.ref b224), (.ref b224)]))
          refine DoneW.step (fun t k => XS.aload X224.here hx rfl (hb hby at_178) rfl rfl k) ?_
          show DoneW p e below s _ _ _ (T224.setTop (mkF m 180 #[vi p1, vi p2, vi p3, vi p4, vi p5, vi x101, vi x102, vi x103, vi x104, vi x105, vu, vu, vr b192, vu] [(.ref b192), (.ref b224), (.ref b224)]))
          obtain ⟨v235, _, ⟨T235, L235, k235, n235⟩, -, X235, ⟨Lc235, hQ235, l235, y235, z235⟩, st235⟩ := X224.specialBack hx (y := (⟨"java/lang/String", "<init>", "([C)V"⟩ : MethodName)) rfl hown (mvT hZ (tw22 hw)) (mvT hZ (tw23 hw)) (mvT hZ (tw24 hw)) (by decide) (backOf (W := 1) (rm3 l Z a0 hw [] b224 b192 ([x101, x102, x103] : List Int32) cs (3 : Int32) h224 n0 Z224 A224 f233 f234 g_b224 f231 f232 f226 f228 f229 f230 hcs (by rfl) (by exact Nat.le_of_ble_eq_true rfl) (by exact Nat.le_of_ble_eq_true rfl) (own_r3 hr5 hr6 hr7) ne225) hZ (tw24 hw) (tw3 hw) (by decide) (by decide)) (g := (mkF m 180 #[vi p1, vi p2, vi p3, vi p4, vi p5, vi x101, vi x102, vi x103, vi x104, vi x105, vu, vu, vr b192, vu] [(.ref b192), (.ref b224), (.ref b224)])) rfl (by rw [hml]; rfl) (Steps.refl _) (a := b224) (argsL := [(.ref b192)]) (rest := [(.ref b224)]) (lenOf pd_18 rfl) rfl (by show 2 * 0 + _ ≤ _; exact Nat.le_of_eq rfl) (hb hby at_180) (fun _ _ => ⟨rfl, e224, (by decide : 2 + 2 ≤ _), (by decide : 7 + 195 ≤ _)⟩)
          dsimp only [Pt.U, Pt.locs, Pt.cells, Pt.slots] at X235 l235 y235 z235 st235 hQ235
          subst l235 y235 z235
          refine DoneW.far st235 ?_
          obtain ⟨rfl, N235q, K235q, xE235, vb235, kk235, vs235, mI235, nI235, xF235, xG235, xA235, hD235⟩ := hQ235
          have N235 := Fr.app N215 N235q
          have f236 := own_stakeep f226 K235q (allS (own_unst A224) all0)
          have f237 := own_stakeep f227 K235q (allS (own_unst A224) all0)
          have f238 := own_stakeep f228 K235q (allS (own_unst A224) all0)
          have f239 := own_stakeep f229 K235q (allS (own_unst A224) all0)
          have f240 := own_stakeep f230 K235q (allS (own_unst A224) all0)
          have f241 := f231.keep K235q
          have f242 := f232.keep K235q (ninS ne225 nin0)
          have f243 := A224.keep K235q
          have Zk235 := Nat.le_trans Z224 K235q.1
          show DoneW p e below s _ _ _ (T235.setTop (mkF m 183 #[vi p1, vi p2, vi p3, vi p4, vi p5, vi x101, vi x102, vi x103, vi x104, vi x105, vu, vu, vr b192, vu] [(.ref b224)]))
          refine DoneW.step (fun t k => XS.astore X235.here hx rfl (hb hby at_183) rfl rfl (l' := #[vi p1, vi p2, vi p3, vi p4, vi p5, vi x101, vi x102, vi x103, vi x104, vi x105, vr b224, vu, vr b192, vu]) rfl k) ?_
          show DoneW p e below s _ _ _ (T235.setTop (mkF m 185 #[vi p1, vi p2, vi p3, vi p4, vi p5, vi x101, vi x102, vi x103, vi x104, vi x105, vr b224, vu, vr b192, vu] []))
          refine DoneW.step (fun t k => XS.iload X235.here hx rfl (hb hby at_185) rfl k) ?_
          show DoneW p e below s _ _ _ (T235.setTop (mkF m 187 #[vi p1, vi p2, vi p3, vi p4, vi p5, vi x101, vi x102, vi x103, vi x104, vi x105, vr b224, vu, vr b192, vu] [(.int x101)]))
          obtain ⟨v244, _, ⟨T244, L244, k244, n244⟩, -, X244, ⟨Lc244, hQ244, l244, y244, z244⟩, st244⟩ := Jvm.LawKit.callS X235 hx (y := (⟨"com/example/stowage/stowage/model/NamesIsNamePinLaw", "ok", "(C)Z"⟩ : MethodName)) hown (mvT hZ (tw44 hw)) (mvT hZ (tw45 hw)) (mvT hZ (tw46 hw)) (mvT hZ (tw47 hw)) (by decide) (backOf (W := 0) (rm9 l Z a0 hw [] x101 T235.heap n0 Zk235 ) hZ (tw47 hw) (tw46 hw) (by decide) (by decide)) (g := (mkF m 187 #[vi p1, vi p2, vi p3, vi p4, vi p5, vi x101, vi x102, vi x103, vi x104, vi x105, vr b224, vu, vr b192, vu] [(.int x101)])) rfl (by rw [hml]; rfl) (argsL := [(.int x101)]) (rest := []) (lenOf pd_19 rfl) rfl (by show 2 * 0 + _ ≤ _; exact Nat.le_of_eq rfl) (hb hby at_187) (fun _ _ => ⟨rfl, rfl, (by decide : 4 + 0 ≤ _), (by decide : 202 + 0 ≤ _)⟩)
          dsimp only [Pt.U, Pt.locs, Pt.cells, Pt.slots] at X244 l244 y244 z244 st244 hQ244
          subst l244 y244 z244
          refine DoneW.step st244 ?_
          obtain ⟨rfl, N244q, e244⟩ := hQ244
          have N244 := Fr.app N235 N244q
          show DoneW p e below s _ _ _ (T244.setTop (mkF m 190 #[vi p1, vi p2, vi p3, vi p4, vi p5, vi x101, vi x102, vi x103, vi x104, vi x105, vr b224, vu, vr b192, vu] [(.int (F9 x101))]))
          by_cases c7 : (F9 x101) = (0 : Int32)
          · refine DoneW.step (fun t k => XS.ifYes X244.here hx rfl (pc0 := 190) (pc' := 213) rfl (hb hby at_190) rfl ((if0 _ _).trans (teq c7).1) (by decide) (by decide) k) ?_
            show DoneW p e below s _ _ _ (T244.setTop (mkF m 213 #[vi p1, vi p2, vi p3, vi p4, vi p5, vi x101, vi x102, vi x103, vi x104, vi x105, vr b224, vu, vr b192, vu] []))
            refine DoneW.step (fun t k => XS.iconst X244.here hx rfl (hb hby at_213) k) ?_
            show DoneW p e below s _ _ _ (T244.setTop (mkF m 214 #[vi p1, vi p2, vi p3, vi p4, vi p5, vi x101, vi x102, vi x103, vi x104, vi x105, vr b224, vu, vr b192, vu] [(.int 0)]))
            refine DoneW.step (fun t k => XS.istore X244.here hx rfl (hb hby at_214) rfl (l' := #[vi p1, vi p2, vi p3, vi p4, vi p5, vi x101, vi x102, vi x103, vi x104, vi x105, vr b224, vi 0, vr b192, vu]) rfl k) ?_
            show DoneW p e below s _ _ _ (T244.setTop (mkF m 216 #[vi p1, vi p2, vi p3, vi p4, vi p5, vi x101, vi x102, vi x103, vi x104, vi x105, vr b224, vi 0, vr b192, vu] []))
            refine DoneW.step (fun t k => XS.goto X244.here hx rfl (pc0 := 216) (pc' := 1130) rfl (hb hby at_216) (by decide) (by decide) k) ?_
            show DoneW p e below s _ _ _ (T244.setTop (mkF m 1130 #[vi p1, vi p2, vi p3, vi p4, vi p5, vi x101, vi x102, vi x103, vi x104, vi x105, vr b224, vi 0, vr b192, vu] []))
            exact blk1130 p1 p2 p3 p4 p5 x101 x102 x103 x104 x105 b224 (0 : Int32) (vr b192 : Slot) (.unset : Slot) vb235 kk235 vs235 mI235 nI235 cs sv ([x101, x102, x103] : List Int32) (X244.mono (by decide) (by decide)) hx hZ hw hby hml hown hlk hret hnm N244 Zk235 e244 f243 xF235 xG235 xA235 hD235 f236 f237 hsv f238 f239 f240 hcs (own_mz hD235 (by exact Nat.le_of_ble_eq_true rfl)) ((own_in hD235.2.2.2.1 (by exact Nat.le_of_ble_eq_true rfl)).trans (own_moF _ x101 (by simp) c7))
          · refine DoneW.step (fun t k => XS.ifNo X244.here hx rfl (hb hby at_190) rfl ((if0 _ _).trans (feq c7).1) k) ?_
            show DoneW p e below s _ _ _ (T244.setTop (mkF m 193 #[vi p1, vi p2, vi p3, vi p4, vi p5, vi x101, vi x102, vi x103, vi x104, vi x105, vr b224, vu, vr b192, vu] []))
            refine DoneW.step (fun t k => XS.iload X244.here hx rfl (hb hby at_193) rfl k) ?_
            show DoneW p e below s _ _ _ (T244.setTop (mkF m 195 #[vi p1, vi p2, vi p3, vi p4, vi p5, vi x101, vi x102, vi x103, vi x104, vi x105, vr b224, vu, vr b192, vu] [(.int x102)]))
            obtain ⟨v245, _, ⟨T245, L245, k245, n245⟩, -, X245, ⟨Lc245, hQ245, l245, y245, z245⟩, st245⟩ := Jvm.LawKit.callS X244 hx (y := (⟨"com/example/stowage/stowage/model/NamesIsNamePinLaw", "ok", "(C)Z"⟩ : MethodName)) hown (mvT hZ (tw44 hw)) (mvT hZ (tw45 hw)) (mvT hZ (tw46 hw)) (mvT hZ (tw47 hw)) (by decide) (backOf (W := 0) (rm9 l Z a0 hw [] x102 T235.heap n0 Zk235 ) hZ (tw47 hw) (tw46 hw) (by decide) (by decide)) (g := (mkF m 195 #[vi p1, vi p2, vi p3, vi p4, vi p5, vi x101, vi x102, vi x103, vi x104, vi x105, vr b224, vu, vr b192, vu] [(.int x102)])) rfl (by rw [hml]; rfl) (argsL := [(.int x102)]) (rest := []) (lenOf pd_19 rfl) rfl (by show 2 * 0 + _ ≤ _; exact Nat.le_of_eq rfl) (hb hby at_195) (fun _ _ => ⟨rfl, e244, (by decide : 4 + 0 ≤ _), (by decide : 202 + 0 ≤ _)⟩)
            dsimp only [Pt.U, Pt.locs, Pt.cells, Pt.slots] at X245 l245 y245 z245 st245 hQ245
            subst l245 y245 z245
            refine DoneW.step st245 ?_
            obtain ⟨rfl, N245q, e245⟩ := hQ245
            have N245 := Fr.app N244 N245q
            show DoneW p e below s _ _ _ (T245.setTop (mkF m 198 #[vi p1, vi p2, vi p3, vi p4, vi p5, vi x101, vi x102, vi x103, vi x104, vi x105, vr b224, vu, vr b192, vu] [(.int (F9 x102))]))
            by_cases c8 : (F9 x102) = (0 : Int32)
            · refine DoneW.step (fun t k => XS.ifYes X245.here hx rfl (pc0 := 198) (pc' := 213) rfl (hb hby at_198) rfl ((if0 _ _).trans (teq c8).1) (by decide) (by decide) k) ?_
              show DoneW p e below s _ _ _ (T245.setTop (mkF m 213 #[vi p1, vi p2, vi p3, vi p4, vi p5, vi x101, vi x102, vi x103, vi x104, vi x105, vr b224, vu, vr b192, vu] []))
              refine DoneW.step (fun t k => XS.iconst X245.here hx rfl (hb hby at_213) k) ?_
              show DoneW p e below s _ _ _ (T245.setTop (mkF m 214 #[vi p1, vi p2, vi p3, vi p4, vi p5, vi x101, vi x102, vi x103, vi x104, vi x105, vr b224, vu, vr b192, vu] [(.int 0)]))
              refine DoneW.step (fun t k => XS.istore X245.here hx rfl (hb hby at_214) rfl (l' := #[vi p1, vi p2, vi p3, vi p4, vi p5, vi x101, vi x102, vi x103, vi x104, vi x105, vr b224, vi 0, vr b192, vu]) rfl k) ?_
              show DoneW p e below s _ _ _ (T245.setTop (mkF m 216 #[vi p1, vi p2, vi p3, vi p4, vi p5, vi x101, vi x102, vi x103, vi x104, vi x105, vr b224, vi 0, vr b192, vu] []))
              refine DoneW.step (fun t k => XS.goto X245.here hx rfl (pc0 := 216) (pc' := 1130) rfl (hb hby at_216) (by decide) (by decide) k) ?_
              show DoneW p e below s _ _ _ (T245.setTop (mkF m 1130 #[vi p1, vi p2, vi p3, vi p4, vi p5, vi x101, vi x102, vi x103, vi x104, vi x105, vr b224, vi 0, vr b192, vu] []))
              exact blk1130 p1 p2 p3 p4 p5 x101 x102 x103 x104 x105 b224 (0 : Int32) (vr b192 : Slot) (.unset : Slot) vb235 kk235 vs235 mI235 nI235 cs sv ([x101, x102, x103] : List Int32) (X245.mono (by decide) (by decide)) hx hZ hw hby hml hown hlk hret hnm N245 Zk235 e245 f243 xF235 xG235 xA235 hD235 f236 f237 hsv f238 f239 f240 hcs (own_mz hD235 (by exact Nat.le_of_ble_eq_true rfl)) ((own_in hD235.2.2.2.1 (by exact Nat.le_of_ble_eq_true rfl)).trans (own_moF _ x102 (by simp) c8))
            · refine DoneW.step (fun t k => XS.ifNo X245.here hx rfl (hb hby at_198) rfl ((if0 _ _).trans (feq c8).1) k) ?_
              show DoneW p e below s _ _ _ (T245.setTop (mkF m 201 #[vi p1, vi p2, vi p3, vi p4, vi p5, vi x101, vi x102, vi x103, vi x104, vi x105, vr b224, vu, vr b192, vu] []))
              refine DoneW.step (fun t k => XS.iload X245.here hx rfl (hb hby at_201) rfl k) ?_
              show DoneW p e below s _ _ _ (T245.setTop (mkF m 203 #[vi p1, vi p2, vi p3, vi p4, vi p5, vi x101, vi x102, vi x103, vi x104, vi x105, vr b224, vu, vr b192, vu] [(.int x103)]))
              obtain ⟨v246, _, ⟨T246, L246, k246, n246⟩, -, X246, ⟨Lc246, hQ246, l246, y246, z246⟩, st246⟩ := Jvm.LawKit.callS X245 hx (y := (⟨"com/example/stowage/stowage/model/NamesIsNamePinLaw", "ok", "(C)Z"⟩ : MethodName)) hown (mvT hZ (tw44 hw)) (mvT hZ (tw45 hw)) (mvT hZ (tw46 hw)) (mvT hZ (tw47 hw)) (by decide) (backOf (W := 0) (rm9 l Z a0 hw [] x103 T235.heap n0 Zk235 ) hZ (tw47 hw) (tw46 hw) (by decide) (by decide)) (g := (mkF m 203 #[vi p1, vi p2, vi p3, vi p4, vi p5, vi x101, vi x102, vi x103, vi x104, vi x105, vr b224, vu, vr b192, vu] [(.int x103)])) rfl (by rw [hml]; rfl) (argsL := [(.int x103)]) (rest := []) (lenOf pd_19 rfl) rfl (by show 2 * 0 + _ ≤ _; exact Nat.le_of_eq rfl) (hb hby at_203) (fun _ _ => ⟨rfl, e245, (by decide : 4 + 0 ≤ _), (by decide : 202 + 0 ≤ _)⟩)
              dsimp only [Pt.U, Pt.locs, Pt.cells, Pt.slots] at X246 l246 y246 z246 st246 hQ246
              subst l246 y246 z246
              refine DoneW.step st246 ?_
              obtain ⟨rfl, N246q, e246⟩ := hQ246
              have N246 := Fr.app N245 N246q
              show DoneW p e below s _ _ _ (T246.setTop (mkF m 206 #[vi p1, vi p2, vi p3, vi p4, vi p5, vi x101, vi x102, vi x103, vi x104, vi x105, vr b224, vu, vr b192, vu] [(.int (F9 x103))]))
              by_cases c9 : (F9 x103) = (0 : Int32)
              · refine DoneW.step (fun t k => XS.ifYes X246.here hx rfl (pc0 := 206) (pc' := 213) rfl (hb hby at_206) rfl ((if0 _ _).trans (teq c9).1) (by decide) (by decide) k) ?_
                show DoneW p e below s _ _ _ (T246.setTop (mkF m 213 #[vi p1, vi p2, vi p3, vi p4, vi p5, vi x101, vi x102, vi x103, vi x104, vi x105, vr b224, vu, vr b192, vu] []))
                refine DoneW.step (fun t k => XS.iconst X246.here hx rfl (hb hby at_213) k) ?_
                show DoneW p e below s _ _ _ (T246.setTop (mkF m 214 #[vi p1, vi p2, vi p3, vi p4, vi p5, vi x101, vi x102, vi x103, vi x104, vi x105, vr b224, vu, vr b192, vu] [(.int 0)]))
                refine DoneW.step (fun t k => XS.istore X246.here hx rfl (hb hby at_214) rfl (l' := #[vi p1, vi p2, vi p3, vi p4, vi p5, vi x101, vi x102, vi x103, vi x104, vi x105, vr b224, vi 0, vr b192, vu]) rfl k) ?_
                show DoneW p e below s _ _ _ (T246.setTop (mkF m 216 #[vi p1, vi p2, vi p3, vi p4, vi p5, vi x101, vi x102, vi x103, vi x104, vi x105, vr b224, vi 0, vr b192, vu] []))
                refine DoneW.step (fun t k => XS.goto X246.here hx rfl (pc0 := 216) (pc' := 1130) rfl (hb hby at_216) (by decide) (by decide) k) ?_
                show DoneW p e below s _ _ _ (T246.setTop (mkF m 1130 #[vi p1, vi p2, vi p3, vi p4, vi p5, vi x101, vi x102, vi x103, vi x104, vi x105, vr b224, vi 0, vr b192, vu] []))
                exact blk1130 p1 p2 p3 p4 p5 x101 x102 x103 x104 x105 b224 (0 : Int32) (vr b192 : Slot) (.unset : Slot) vb235 kk235 vs235 mI235 nI235 cs sv ([x101, x102, x103] : List Int32) (X246.mono (by decide) (by decide)) hx hZ hw hby hml hown hlk hret hnm N246 Zk235 e246 f243 xF235 xG235 xA235 hD235 f236 f237 hsv f238 f239 f240 hcs (own_mz hD235 (by exact Nat.le_of_ble_eq_true rfl)) ((own_in hD235.2.2.2.1 (by exact Nat.le_of_ble_eq_true rfl)).trans (own_moF _ x103 (by simp) c9))
              · refine DoneW.step (fun t k => XS.ifNo X246.here hx rfl (hb hby at_206) rfl ((if0 _ _).trans (feq c9).1) k) ?_
                show DoneW p e below s _ _ _ (T246.setTop (mkF m 209 #[vi p1, vi p2, vi p3, vi p4, vi p5, vi x101, vi x102, vi x103, vi x104, vi x105, vr b224, vu, vr b192, vu] []))
                refine DoneW.step (fun t k => XS.iconst X246.here hx rfl (hb hby at_209) k) ?_
                show DoneW p e below s _ _ _ (T246.setTop (mkF m 210 #[vi p1, vi p2, vi p3, vi p4, vi p5, vi x101, vi x102, vi x103, vi x104, vi x105, vr b224, vu, vr b192, vu] [(.int 1)]))
                refine DoneW.step (fun t k => XS.goto X246.here hx rfl (pc0 := 210) (pc' := 214) rfl (hb hby at_210) (by decide) (by decide) k) ?_
                show DoneW p e below s _ _ _ (T246.setTop (mkF m 214 #[vi p1, vi p2, vi p3, vi p4, vi p5, vi x101, vi x102, vi x103, vi x104, vi x105, vr b224, vu, vr b192, vu] [(.int 1)]))
                refine DoneW.step (fun t k => XS.istore X246.here hx rfl (hb hby at_214) rfl (l' := #[vi p1, vi p2, vi p3, vi p4, vi p5, vi x101, vi x102, vi x103, vi x104, vi x105, vr b224, vi 1, vr b192, vu]) rfl k) ?_
                show DoneW p e below s _ _ _ (T246.setTop (mkF m 216 #[vi p1, vi p2, vi p3, vi p4, vi p5, vi x101, vi x102, vi x103, vi x104, vi x105, vr b224, vi 1, vr b192, vu] []))
                refine DoneW.step (fun t k => XS.goto X246.here hx rfl (pc0 := 216) (pc' := 1130) rfl (hb hby at_216) (by decide) (by decide) k) ?_
                show DoneW p e below s _ _ _ (T246.setTop (mkF m 1130 #[vi p1, vi p2, vi p3, vi p4, vi p5, vi x101, vi x102, vi x103, vi x104, vi x105, vr b224, vi 1, vr b192, vu] []))
                exact blk1130 p1 p2 p3 p4 p5 x101 x102 x103 x104 x105 b224 (1 : Int32) (vr b192 : Slot) (.unset : Slot) vb235 kk235 vs235 mI235 nI235 cs sv ([x101, x102, x103] : List Int32) (X246.mono (by decide) (by decide)) hx hZ hw hby hml hown hlk hret hnm N246 Zk235 e246 f243 xF235 xG235 xA235 hD235 f236 f237 hsv f238 f239 f240 hcs (own_mz hD235 (by exact Nat.le_of_ble_eq_true rfl)) ((own_in hD235.2.2.2.1 (by exact Nat.le_of_ble_eq_true rfl)).trans (own_moT _ (by simp only [List.mem_cons, List.not_mem_nil, or_false]; intro x hx; rcases hx with rfl | rfl | rfl <;> assumption)))
        · refine DoneW.step (fun t k => XS.icmpYes X0.here hx rfl (pc0 := 151) (pc' := 219) rfl (hb hby at_151) rfl (feq c6).2 (by decide) (by decide) k) ?_
          show DoneW p e below s _ _ _ (s₁.setTop (mkF m 219 #[vi p1, vi p2, vi p3, vi p4, vi p5, vi x101, vi x102, vi x103, vi x104, vi x105, vu, vu, vu, vu] []))
          refine DoneW.step (fun t k => XS.iload X0.here hx rfl (hb hby at_219) rfl k) ?_
          show DoneW p e below s _ _ _ (s₁.setTop (mkF m 221 #[vi p1, vi p2, vi p3, vi p4, vi p5, vi x101, vi x102, vi x103, vi x104, vi x105, vu, vu, vu, vu] [(.int x105)]))
          refine DoneW.step (fun t k => XS.iconst X0.here hx rfl (hb hby at_221) k) ?_
          show DoneW p e below s _ _ _ (s₁.setTop (mkF m 222 #[vi p1, vi p2, vi p3, vi p4, vi p5, vi x101, vi x102, vi x103, vi x104, vi x105, vu, vu, vu, vu] [(.int 4), (.int x105)]))
          by_cases c10 : x105 = (4 : Int32)
          · refine DoneW.step (fun t k => XS.icmpNo X0.here hx rfl (hb hby at_222) rfl (teq c10).2 k) ?_
            show DoneW p e below s _ _ _ (s₁.setTop (mkF m 225 #[vi p1, vi p2, vi p3, vi p4, vi p5, vi x101, vi x102, vi x103, vi x104, vi x105, vu, vu, vu, vu] []))
            refine DoneW.step (fun t k => XS.bipush X0.here hx rfl (hb hby at_225) k) ?_
            show DoneW p e below s _ _ _ (s₁.setTop (mkF m 227 #[vi p1, vi p2, vi p3, vi p4, vi p5, vi x101, vi x102, vi x103, vi x104, vi x105, vu, vu, vu, vu] [(.int 64)]))
            obtain ⟨T247, h247, k247, X247, e247, E247, A247, B247, st247⟩ := newPE X0 hx hZ (hw _ (List.mem_of_getElem? (i := 20) rfl)) e0 (g := (mkF m 227 #[vi p1, vi p2, vi p3, vi p4, vi p5, vi x101, vi x102, vi x103, vi x104, vi x105, vu, vu, vu, vu] [(.int 64)])) rfl (hb hby at_227) rfl (by decide) (cap := 64) (by decide) (by decide) (by decide) (by decide) (ad := "[C") (by decide)
            obtain ⟨b247, gq247⟩ : ∃ z, z = h0.size := ⟨_, rfl⟩
            rw [← gq247] at A247 B247 st247
            have f248 := Scs.ext E247
            have f249 := Ssx.ext E247
            have f250 := Sad.ext E247
            have f251 := Shi.ext E247
            have f252 := Slo.ext E247
            have g_b247 := Nat.le_trans Z0 (Nat.le_of_eq gq247.symm)
            have Z247 := Nat.le_trans Z0 E247.1
            have f253 : Ax Z h247 b247 .char [(.int 0), (.int 0), (.int 0), (.int 0), (.int 0), (.int 0), (.int 0), (.int 0), (.int 0), (.int 0), (.int 0), (.int 0), (.int 0), (.int 0), (.int 0), (.int 0), (.int 0), (.int 0), (.int 0), (.int 0), (.int 0), (.int 0), (.int 0), (.int 0), (.int 0), (.int 0), (.int 0), (.int 0), (.int 0), (.int 0), (.int 0), (.int 0), (.int 0), (.int 0), (.int 0), (.int 0), (.int 0), (.int 0), (.int 0), (.int 0), (.int 0), (.int 0), (.int 0), (.int 0), (.int 0), (.int 0), (.int 0), (.int 0), (.int 0), (.int 0), (.int 0), (.int 0), (.int 0), (.int 0), (.int 0), (.int 0), (.int 0), (.int 0), (.int 0), (.int 0), (.int 0), (.int 0), (.int 0), (.int 0)] := Ax.new (ty := .char) (i := 64) A247 (by decide)
            refine DoneW.step st247 ?_
            show DoneW p e below s _ _ _ (T247.setTop (mkF m 229 #[vi p1, vi p2, vi p3, vi p4, vi p5, vi x101, vi x102, vi x103, vi x104, vi x105, vu, vu, vu, vu] [(.ref b247)]))
            have g254 : Ax Z h247 b247 .char ((RR 64 0 x104).map Value.int) := by have q := f253; exact q
            exact fill229 p1 p2 p3 p4 p5 x101 x102 x103 x104 x105 b247 cs sv X247 hx hZ hw hby hml hown hlk hret hnm N0 Z247 e247 g254 B247 g_b247 f248 f249 hsv f250 f251 f252 hcs hr5 hr6 hr7 hr8 hc5 hc6 hc7 hc8
          · refine DoneW.step (fun t k => XS.icmpYes X0.here hx rfl (pc0 := 222) (pc' := 698) rfl (hb hby at_222) rfl (feq c10).2 (by decide) (by decide) k) ?_
            show DoneW p e below s _ _ _ (s₁.setTop (mkF m 698 #[vi p1, vi p2, vi p3, vi p4, vi p5, vi x101, vi x102, vi x103, vi x104, vi x105, vu, vu, vu, vu] []))
            refine DoneW.step (fun t k => XS.bipush X0.here hx rfl (hb hby at_698) k) ?_
            show DoneW p e below s _ _ _ (s₁.setTop (mkF m 700 #[vi p1, vi p2, vi p3, vi p4, vi p5, vi x101, vi x102, vi x103, vi x104, vi x105, vu, vu, vu, vu] [(.int 65)]))
            obtain ⟨T255, h255, k255, X255, e255, E255, A255, B255, st255⟩ := newPE X0 hx hZ (hw _ (List.mem_of_getElem? (i := 20) rfl)) e0 (g := (mkF m 700 #[vi p1, vi p2, vi p3, vi p4, vi p5, vi x101, vi x102, vi x103, vi x104, vi x105, vu, vu, vu, vu] [(.int 65)])) rfl (hb hby at_700) rfl (by decide) (cap := 65) (by decide) (by decide) (by decide) (by decide) (ad := "[C") (by decide)
            obtain ⟨b255, gq255⟩ : ∃ z, z = h0.size := ⟨_, rfl⟩
            rw [← gq255] at A255 B255 st255
            have f256 := Scs.ext E255
            have f257 := Ssx.ext E255
            have f258 := Sad.ext E255
            have f259 := Shi.ext E255
            have f260 := Slo.ext E255
            have g_b255 := Nat.le_trans Z0 (Nat.le_of_eq gq255.symm)
            have Z255 := Nat.le_trans Z0 E255.1
            have f261 : Ax Z h255 b255 .char [(.int 0), (.int 0), (.int 0), (.int 0), (.int 0), (.int 0), (.int 0), (.int 0), (.int 0), (.int 0), (.int 0), (.int 0), (.int 0), (.int 0), (.int 0), (.int 0), (.int 0), (.int 0), (.int 0), (.int 0), (.int 0), (.int 0), (.int 0), (.int 0), (.int 0), (.int 0), (.int 0), (.int 0), (.int 0), (.int 0), (.int 0), (.int 0), (.int 0), (.int 0), (.int 0), (.int 0), (.int 0), (.int 0), (.int 0), (.int 0), (.int 0), (.int 0), (.int 0), (.int 0), (.int 0), (.int 0), (.int 0), (.int 0), (.int 0), (.int 0), (.int 0), (.int 0), (.int 0), (.int 0), (.int 0), (.int 0), (.int 0), (.int 0), (.int 0), (.int 0), (.int 0), (.int 0), (.int 0), (.int 0), (.int 0)] := Ax.new (ty := .char) (i := 65) A255 (by decide)
            refine DoneW.step st255 ?_
            show DoneW p e below s _ _ _ (T255.setTop (mkF m 702 #[vi p1, vi p2, vi p3, vi p4, vi p5, vi x101, vi x102, vi x103, vi x104, vi x105, vu, vu, vu, vu] [(.ref b255)]))
            have g262 : Ax Z h255 b255 .char ((RR 65 0 x104).map Value.int) := by have q := f261; exact q
            exact fill702 p1 p2 p3 p4 p5 x101 x102 x103 x104 x105 b255 cs sv X255 hx hZ hw hby hml hown hlk hret hnm N0 Z255 e255 g262 B255 g_b255 f256 f257 hsv f258 f259 f260 hcs hr5 hr6 hr7 hr8 hc5 hc6 hc7 hc8
theorem tableWord_moved0 {args : Array Value} {s : State} (h : (Cond.not (.eq (.static "java/lang/String" "COMPACT_STRINGS" "Z") (.int 0))).before args s = true) : Jvm.Lit.compactW.before #[] s = true := h
set_option maxRecDepth 65536 in
set_option maxHeartbeats 40000000 in
theorem comes_1 {Post : Tables → Env → Array Value → State → Outcome → State → Prop} (hpost : ∀ tb e args s v u, (limb_1_1.after args s (.returned v) u = true ∧ limb_1_2.after args s (.returned v) u = true ∧ True) → ReturnedEndW s (.returned v) u (Jvm.fieldLocs frame_1_writes args s ++ Jvm.arrayLocs frame_1_arrays args s ++ Jvm.staticLocs frame_1_statics s) 24 1664 → Post tb e args s (.returned v) u) :
    ArmFor flags0 classFile x code maxLocals ret World_1 tables_1 room_1 Calls_1 rest_1 Pre_1 Post := by
  intro l hfl _ _ p e ha hc hk s m args below hf hA hF happ hP
  obtain ⟨hcalls, hrest, hpre⟩ := hP
  obtain ⟨-, -, -, hnamed, -, -, -, hat⟩ := (Spec.applies_iff hf).mp happ
  obtain ⟨hg, hn⟩ := and_e (Cond.before_iff.mp (show (Jvm.Cond.and given_1 narrow_1).before args s = true from hpre))
  obtain ⟨hcnt, g0⟩ := and_e hg
  obtain ⟨u0, g1⟩ := and_e g0
  obtain ⟨u1, g2⟩ := and_e g1
  obtain ⟨u2, g3⟩ := and_e g2
  obtain ⟨u3, g4⟩ := and_e g3
  have u4 := g4
  obtain ⟨w0, w1, w2, w3, w4, rfl⟩ : ∃ w0 w1 w2 w3 w4 : Value, args = #[w0, w1, w2, w3, w4] := by
    have hs : args.size = 5 := by simpa [Cond.value, given_1] using hcnt
    obtain ⟨L⟩ := args
    match L, hs with
    | [w0, w1, w2, w3, w4], _ => exact ⟨w0, w1, w2, w3, w4, rfl⟩
  have hw := fun d (hd : d ∈ tables_1) => atoms_spec (ws := Jvm.Cond.code x code maxLocals ret :: tables_1) hat d (List.mem_cons_of_mem _ hd)
  have hfit : Fit s := fun {y c} hc i hi => by
    obtain ⟨ha, rfl⟩ := Array.getElem?_eq_some_iff.mp hc
    have q := List.all_eq_true.mp ((Array.all_eq_true_iff_forall_mem.mp hF) _ (Array.getElem_mem ha)) i (List.mem_range.mpr hi)
    simpa [Array.getElem?_eq_getElem hi] using q
  obtain ⟨i0, ei0⟩ := is_v u0
  obtain rfl : w0 = (.int i0) := Option.some.inj ei0
  obtain ⟨i1, ei1⟩ := is_v u1
  obtain rfl : w1 = (.int i1) := Option.some.inj ei1
  obtain ⟨i2, ei2⟩ := is_v u2
  obtain rfl : w2 = (.int i2) := Option.some.inj ei2
  obtain ⟨i3, ei3⟩ := is_v u3
  obtain rfl : w3 = (.int i3) := Option.some.inj ei3
  obtain ⟨i4, ei4⟩ := is_v u4
  obtain rfl : w4 = (.int i4) := Option.some.inj ei4
  obtain ⟨hsets, hown0⟩ := atoms_of _ (rest_1_c_eq ▸ (show rest_1_c.before _ s = true from hrest))
  have n5 := not_v (Cond.before_iff.mp (hsets _ (List.mem_of_getElem? (i := 2) rfl)))
  obtain ⟨cs, ecs⟩ := is_v (Cond.before_iff.mp (hsets _ (List.mem_of_getElem? (i := 1) rfl)))
  obtain ⟨sv, esv, hsv⟩ := isR_v (Cond.before_iff.mp (hsets _ (List.mem_of_getElem? (i := 8) rfl)))
  have eSad := Cond.eq_int (hsets _ (List.mem_of_getElem? (i := 12) rfl)) rfl
  have eShi := Cond.eq_int (hsets _ (List.mem_of_getElem? (i := 15) rfl)) rfl
  have eSlo := Cond.eq_int (hsets _ (List.mem_of_getElem? (i := 18) rfl)) rfl
  have hheld : ConstHeldL s "com/example/stowage/stowage/model/NamesIsNamePinLaw" 9 := own_held (hcalls.1 ("com/example/stowage/stowage/model/NamesIsNamePinLaw", 9) (List.mem_singleton.mpr rfl)) (tw2 hw) (tableWord_moved0 (hsets _ (List.mem_of_getElem? (i := 2) rfl))) (tw6 hw) (hw _ (List.mem_of_getElem? (i := 5) rfl)) (tw4 hw)
  obtain ⟨n, o, h1, h2, h3, _, L, rfl, ⟨rfl, N⟩, hq⟩ := rm0 l s _ hw tables_1 i0 i1 i2 i3 i4 cs sv s.heap s.heap.size (Nat.le_refl _) (Sta.start ecs (Or.inl (hsets _ (List.mem_of_getElem? (i := 0) rfl)))) (Sta.start esv (Or.inl (hsets _ (List.mem_of_getElem? (i := 7) rfl)))) hsv (Sta.start eSad (Or.inl (hsets _ (List.mem_of_getElem? (i := 11) rfl)))) (Sta.start eShi (Or.inl (hsets _ (List.mem_of_getElem? (i := 14) rfl)))) (Sta.start eSlo (Or.inl (hsets _ (List.mem_of_getElem? (i := 17) rfl)))) (gotF (Cond.eq_ints ecs (Term.int_eval (0))) n5) p e ha hc hk s m _ below hf ((Spec.applies_iff_loose hf).mp happ).1 ⟨rfl, State.Warmed39.refl s, rfl, hheld⟩ trivial
  refine ⟨n, _, h1, h2, h3, hpost _ _ _ _ _ _ ⟨Cond.after_iff.mpr rfl, Cond.after_iff.mpr (eq_i res_at (Term.int_eval (1)) rfl), trivial⟩ ⟨hq.1, hq.2.1, hq.2.2.1, (hq.2.2.2.sift fun y hy => Or.inr (N y hy)).mono (by decide) (by decide)⟩⟩
theorem main_1_1 : Claimed_1_1 := comes_1 fun _ _ _ _ _ _ h hF => ⟨h.1, hF⟩
theorem main_1_2 : Claimed_1_2 := comes_1 fun _ _ _ _ _ _ h hF => ⟨h.2.1, hF⟩
end Jvm.Pilot.@@N@@
namespace Jvm.Pilot.@@N@@
open Jvm Jvm.ClassFile Sem Op Lib Jvm.Free Jvm.Stand Jvm.Pilot.@@N@@.Jvm.D
/-! MADE BY PROGRAM (witnessworld.py) out of the Statement's table words and the real class files: 20 classes; the members and pool entries that the words name. The judged class is class 1, her method 2. -/
namespace start1
open Jvm.ClassFile
def u (s : String) : CpInfo := .utf8 (stringToUtf16 s)
/-- a pool by its gaps: so many unusable entries, then the entry; so many at the end -/
def gap : Nat → List CpInfo → List CpInfo
  | 0, r => r
  | n + 1, r => .unusable :: gap n r
def poolList (es : List (Nat × CpInfo)) (last : Nat) : List CpInfo := es.foldr (fun e r => gap e.1 (e.2 :: r)) (gap last [])
def pool (es : List (Nat × CpInfo)) (last : Nat) : Array CpInfo := ⟨poolList es last⟩
def fileOf (pool : Array CpInfo) (this : Nat) (attrs : Array Attribute := #[]) (ms : Array MethodInfo := #[]) (fl : Nat := 33) (sup : Nat := 0) (ifs : Array Nat := #[]) (fds : Array FieldInfo := #[]) : ClassFile where
  minorVersion := 0
  majorVersion := 65
  constantPool := pool
  accessFlags := fl
  thisClass := this
  superClass := sup
  interfaces := ifs
  fields := fds
  methods := ms
  attributes := attrs
def plain (name : String) (sup : Option ClassId) : Class where
  name := name
  kind := .ordinary
  loader := none
  accessFlags := 33
  super := sup
  interfaces := #[]
  cf := none
  fields := #[]
  methods := #[]
  instanceTypes := #[]
  staticTypes := #[]
  resolved := #[]
  callSites := []
  init := .initialized
  statics := none
  mirror := none

def pool0 : Array CpInfo := pool [(5, u "<init>"), (0, u "()V"), (1, .class_ 10), (1, u "java/lang/Object")] 113

def k0c0 : Code := { maxStack := 0, maxLocals := 1, code := object_method_1_code, exceptionTable := #[], attributes := #[] }
def k0m0 : Method := { name := "<init>", desc := "()V", sig := { parameters := [], returnType := none }, accessFlags := 1, code := some k0c0 }
/-- java/lang/Object -/
def k0 : Class := { plain "java/lang/Object" none with
  accessFlags := 33
  interfaces := #[]
  cf := some (fileOf pool0 8 #[] #[{ accessFlags := 1, nameIndex := 5, descriptorIndex := 6, attributes := #[] }] 33 0 #[] #[])
  fields := #[]
  methods := #[k0m0]
  instanceTypes := #[]
  staticTypes := #[]
  resolved := Array.replicate 124 none
  statics := none }

def pool1 : Array CpInfo := pool [(2, .class_ 4), (1, u "java/lang/Object"), (0, u "<init>"), (0, u "()V"), (0, .integer 65535), (0, .integer 2147483647), (0, .string 10), (0, u ""), (0, .class_ 12), (0, u "java/lang/String"), (0, .methodref 11 14), (0, .nameAndType 5 15), (0, u "([C)V"), (0, .methodref 17 18), (0, .class_ 19), (0, .nameAndType 20 21), (0, u "com/example/stowage/stowage/model/NamesIsNamePinLaw"), (0, u "ok"), (0, u "(C)Z"), (0, .methodref 23 24), (0, .class_ 25), (0, .nameAndType 26 27), (0, u "com/example/stowage/stowage/model/Names"), (0, u "isName"), (0, u "(Ljava/lang/String;)Z"), (3, u "law"), (0, u "(IIIII)Z")] 4

def k1m0 : Method := { name := "<init>", desc := "()V", sig := { parameters := [], returnType := none }, accessFlags := 2, code := none }
def k1c1 : Code := { maxStack := 2, maxLocals := 1, code := method_2_code, exceptionTable := #[], attributes := #[] }
def k1m1 : Method := { name := "ok", desc := "(C)Z", sig := { parameters := [.char], returnType := some .boolean }, accessFlags := 10, code := some k1c1 }
def k1c2 : Code := { maxStack := 4, maxLocals := 14, code := code, exceptionTable := #[], attributes := #[] }
def k1m2 : Method := { name := "law", desc := "(IIIII)Z", sig := { parameters := [.int, .int, .int, .int, .int], returnType := some .boolean }, accessFlags := 9, code := some k1c2 }
/-- com/example/stowage/stowage/model/NamesIsNamePinLaw -/
def k1 : Class := { plain "com/example/stowage/stowage/model/NamesIsNamePinLaw" (some 0) with
  accessFlags := 49
  interfaces := #[]
  cf := some (fileOf pool1 17 #[] #[{ accessFlags := 2, nameIndex := 5, descriptorIndex := 6, attributes := #[] }, { accessFlags := 10, nameIndex := 20, descriptorIndex := 21, attributes := #[] }, { accessFlags := 9, nameIndex := 31, descriptorIndex := 32, attributes := #[] }] 49 2 #[] #[])
  fields := #[]
  methods := #[k1m0, k1m1, k1m2]
  instanceTypes := #[]
  staticTypes := #[]
  resolved := Array.replicate 37 none
  statics := none }

def pool2 : Array CpInfo := pool [(1, .class_ 2), (0, u "java/io/Serializable"), (0, .class_ 4), (0, u "java/lang/Object")] 2

/-- java/io/Serializable -/
def k2 : Class := { plain "java/io/Serializable" (some 0) with
  accessFlags := 1537
  interfaces := #[]
  cf := some (fileOf pool2 1 #[] #[] 1537 3 #[] #[])
  fields := #[]
  methods := #[]
  instanceTypes := #[]
  staticTypes := #[]
  resolved := Array.replicate 7 none
  statics := none }

def pool3 : Array CpInfo := pool [(1, .class_ 2), (0, u "java/lang/Comparable"), (0, .class_ 4), (0, u "java/lang/Object")] 7

/-- java/lang/Comparable -/
def k3 : Class := { plain "java/lang/Comparable" (some 0) with
  accessFlags := 1537
  interfaces := #[]
  cf := some (fileOf pool3 1 #[] #[] 1537 3 #[] #[])
  fields := #[]
  methods := #[]
  instanceTypes := #[]
  staticTypes := #[]
  resolved := Array.replicate 12 none
  statics := none }

def pool4 : Array CpInfo := pool [(2, .class_ 4), (1, u "java/lang/CharSequence"), (42, .class_ 48), (0, u "java/lang/CharSequence$1CodePointIterator"), (10, .class_ 60), (0, u "java/lang/CharSequence$1CharIterator"), (5, .class_ 67), (0, u "java/lang/Object")] 63

/-- java/lang/CharSequence -/
def k4 : Class := { plain "java/lang/CharSequence" (some 0) with
  accessFlags := 1537
  interfaces := #[]
  cf := some (fileOf pool4 2 #[.nestMembers #[47, 59]] #[] 1537 66 #[] #[])
  fields := #[]
  methods := #[]
  instanceTypes := #[]
  staticTypes := #[]
  resolved := Array.replicate 131 none
  statics := none }

def pool5 : Array CpInfo := pool [(1, .class_ 2), (0, u "java/lang/constant/Constable"), (0, .class_ 4), (0, u "java/lang/Object")] 6

/-- java/lang/constant/Constable -/
def k5 : Class := { plain "java/lang/constant/Constable" (some 0) with
  accessFlags := 1537
  interfaces := #[]
  cf := some (fileOf pool5 1 #[] #[] 1537 3 #[] #[])
  fields := #[]
  methods := #[]
  instanceTypes := #[]
  staticTypes := #[]
  resolved := Array.replicate 11 none
  statics := none }

def pool6 : Array CpInfo := pool [(1, .class_ 2), (0, u "java/lang/constant/ConstantDesc"), (0, .class_ 4), (0, u "java/lang/Object")] 32

/-- java/lang/constant/ConstantDesc -/
def k6 : Class := { plain "java/lang/constant/ConstantDesc" (some 0) with
  accessFlags := 1537
  interfaces := #[]
  cf := some (fileOf pool6 1 #[] #[] 1537 3 #[] #[])
  fields := #[]
  methods := #[]
  instanceTypes := #[]
  staticTypes := #[]
  resolved := Array.replicate 37 none
  statics := none }

def pool7 : Array CpInfo := pool [(1, .methodref 2 3), (0, .class_ 4), (0, .nameAndType 5 6), (0, u "java/lang/Object"), (0, u "<init>"), (0, u "()V"), (2, .fieldref 10 11), (0, .class_ 12), (0, .nameAndType 13 14), (0, u "java/lang/String"), (0, u "value"), (0, u "[B"), (0, .fieldref 10 16), (0, .nameAndType 17 18), (0, u "coder"), (0, u "B"), (2, u "hash"), (0, u "I"), (2, u "hashIsZero"), (0, u "Z"), (0, .methodref 10 28), (0, .nameAndType 5 29), (0, u "([CIILjava/lang/Void;)V"), (8, .fieldref 10 39), (0, .nameAndType 40 26), (0, u "COMPACT_STRINGS"), (1, .class_ 44), (1, u "java/lang/StringUTF16"), (0, u "compress"), (1, .methodref 42 48), (0, .nameAndType 49 50), (0, u "coderFromArrayLen"), (0, u "([BI)B"), (56, .class_ 109), (1, u "java/lang/StringLatin1"), (32, u "()Z"), (34, .methodref 42 178), (0, .nameAndType 45 179), (0, u "([CII)[B"), (154, u "()I"), (0, .methodref 10 336), (0, .nameAndType 17 337), (0, u "()B"), (25, u "([BI)C"), (27, u "(II)V"), (35, u "(I)C"), (64, .methodref 10 493), (0, .nameAndType 494 142), (0, u "isLatin1"), (0, .methodref 107 496), (0, .nameAndType 497 363), (0, u "charAt"), (0, .methodref 42 496), (2, u "checkIndex"), (5, u "length"), (67, .class_ 576), (0, u "java/lang/CharSequence"), (22, u "CASE_INSENSITIVE_ORDER"), (0, u "Ljava/util/Comparator;"), (91, u "isEmpty"), (317, u "([C)V"), (42, .fieldref 1054 1055), (0, .class_ 1056), (0, .nameAndType 1057 1058), (0, u "jdk/internal/util/Preconditions"), (0, u "SIOOBE_FORMATTER"), (0, u "Ljava/util/function/BiFunction;"), (0, .methodref 1054 1060), (0, .nameAndType 501 1061), (0, u "(IILjava/util/function/BiFunction;)I"), (39, u "serialPersistentFields"), (0, u "[Ljava/io/ObjectStreamField;"), (0, .class_ 1104), (0, u "java/lang/String$CaseInsensitiveComparator"), (1, .class_ 1107), (0, u "java/io/Serializable"), (0, .class_ 1109), (0, u "java/lang/Comparable"), (0, .class_ 1111), (0, u "java/lang/constant/Constable"), (0, .class_ 1113), (0, u "java/lang/constant/ConstantDesc"), (2, u "serialVersionUID"), (0, u "J"), (3, u "REPL"), (0, u "C"), (2, u "LATIN1"), (1, u "UTF16")] 323

def k7m0 : Method := { name := "<init>", desc := "()V", sig := { parameters := [], returnType := none }, accessFlags := 1, code := none }
def k7c1 : Code := { maxStack := 5, maxLocals := 2, code := jdk_42_method_3_code, exceptionTable := #[], attributes := #[] }
def k7m1 : Method := { name := "<init>", desc := "([C)V", sig := { parameters := [(.array .char)], returnType := none }, accessFlags := 1, code := some k7c1 }
def k7c2 : Code := { maxStack := 2, maxLocals := 1, code := jdk_42_method_54_code, exceptionTable := #[], attributes := #[] }
def k7m2 : Method := { name := "length", desc := "()I", sig := { parameters := [], returnType := some .int }, accessFlags := 1, code := some k7c2 }
def k7c3 : Code := { maxStack := 1, maxLocals := 1, code := jdk_42_method_55_code, exceptionTable := #[], attributes := #[] }
def k7m3 : Method := { name := "isEmpty", desc := "()Z", sig := { parameters := [], returnType := some .boolean }, accessFlags := 1, code := some k7c3 }
def k7c4 : Code := { maxStack := 2, maxLocals := 2, code := jdk_42_method_56_code, exceptionTable := #[], attributes := #[] }
def k7m4 : Method := { name := "charAt", desc := "(I)C", sig := { parameters := [.int], returnType := some .char }, accessFlags := 1, code := some k7c4 }
def k7c5 : Code := { maxStack := 4, maxLocals := 6, code := jdk_42_method_149_code, exceptionTable := #[], attributes := #[] }
def k7m5 : Method := { name := "<init>", desc := "([CIILjava/lang/Void;)V", sig := { parameters := [(.array .char), .int, .int, (.object "java/lang/Void")], returnType := none }, accessFlags := 2, code := some k7c5 }
def k7c6 : Code := { maxStack := 1, maxLocals := 1, code := jdk_42_method_152_code, exceptionTable := #[], attributes := #[] }
def k7m6 : Method := { name := "coder", desc := "()B", sig := { parameters := [], returnType := some .byte }, accessFlags := 0, code := some k7c6 }
def k7c7 : Code := { maxStack := 1, maxLocals := 1, code := jdk_42_method_154_code, exceptionTable := #[], attributes := #[] }
def k7m7 : Method := { name := "isLatin1", desc := "()Z", sig := { parameters := [], returnType := some .boolean }, accessFlags := 0, code := some k7c7 }
def k7c8 : Code := { maxStack := 3, maxLocals := 2, code := jdk_42_method_155_code, exceptionTable := #[], attributes := #[] }
def k7m8 : Method := { name := "checkIndex", desc := "(II)V", sig := { parameters := [.int, .int], returnType := none }, accessFlags := 8, code := some k7c8 }
/-- java/lang/String -/
def k7 : Class := { plain "java/lang/String" (some 0) with
  accessFlags := 49
  interfaces := #[2, 3, 4, 5, 6]
  cf := some (fileOf pool7 10 #[.nestMembers #[1103]] #[{ accessFlags := 1, nameIndex := 5, descriptorIndex := 6, attributes := #[] }, { accessFlags := 1, nameIndex := 5, descriptorIndex := 1010, attributes := #[] }, { accessFlags := 1, nameIndex := 507, descriptorIndex := 334, attributes := #[] }, { accessFlags := 1, nameIndex := 692, descriptorIndex := 142, attributes := #[] }, { accessFlags := 1, nameIndex := 497, descriptorIndex := 427, attributes := #[] }, { accessFlags := 2, nameIndex := 5, descriptorIndex := 29, attributes := #[] }, { accessFlags := 0, nameIndex := 17, descriptorIndex := 337, attributes := #[] }, { accessFlags := 0, nameIndex := 494, descriptorIndex := 142, attributes := #[] }, { accessFlags := 8, nameIndex := 501, descriptorIndex := 391, attributes := #[] }] 49 2 #[1106, 1108, 575, 1110, 1112] #[{ accessFlags := 18, nameIndex := 13, descriptorIndex := 14, attributes := #[] }, { accessFlags := 18, nameIndex := 17, descriptorIndex := 18, attributes := #[] }, { accessFlags := 2, nameIndex := 21, descriptorIndex := 22, attributes := #[] }, { accessFlags := 2, nameIndex := 25, descriptorIndex := 26, attributes := #[] }, { accessFlags := 26, nameIndex := 1116, descriptorIndex := 1117, attributes := #[] }, { accessFlags := 24, nameIndex := 40, descriptorIndex := 26, attributes := #[] }, { accessFlags := 26, nameIndex := 1101, descriptorIndex := 1102, attributes := #[] }, { accessFlags := 26, nameIndex := 1121, descriptorIndex := 1122, attributes := #[] }, { accessFlags := 25, nameIndex := 599, descriptorIndex := 600, attributes := #[] }, { accessFlags := 24, nameIndex := 1125, descriptorIndex := 18, attributes := #[] }, { accessFlags := 24, nameIndex := 1127, descriptorIndex := 18, attributes := #[] }])
  fields := #[{ name := "value", type := (.array .byte), accessFlags := 18, slot := 0, constantValue := 0 }, { name := "coder", type := .byte, accessFlags := 18, slot := 1, constantValue := 0 }, { name := "hash", type := .int, accessFlags := 2, slot := 2, constantValue := 0 }, { name := "hashIsZero", type := .boolean, accessFlags := 2, slot := 3, constantValue := 0 }, { name := "serialVersionUID", type := .long, accessFlags := 26, slot := 0, constantValue := 0 }, { name := "COMPACT_STRINGS", type := .boolean, accessFlags := 24, slot := 1, constantValue := 0 }, { name := "serialPersistentFields", type := (.array (.object "java/io/ObjectStreamField")), accessFlags := 26, slot := 2, constantValue := 0 }, { name := "REPL", type := .char, accessFlags := 26, slot := 3, constantValue := 0 }, { name := "CASE_INSENSITIVE_ORDER", type := (.object "java/util/Comparator"), accessFlags := 25, slot := 4, constantValue := 0 }, { name := "LATIN1", type := .byte, accessFlags := 24, slot := 5, constantValue := 0 }, { name := "UTF16", type := .byte, accessFlags := 24, slot := 6, constantValue := 0 }]
  methods := #[k7m0, k7m1, k7m2, k7m3, k7m4, k7m5, k7m6, k7m7, k7m8]
  instanceTypes := #[(.array .byte), .byte, .int, .boolean]
  staticTypes := #[.long, .boolean, (.array (.object "java/io/ObjectStreamField")), .char, (.object "java/util/Comparator"), .byte, .byte]
  resolved := Array.replicate 1451 none
  statics := some 0 }

def pool8 : Array CpInfo := pool [(2, .class_ 4), (1, u "java/lang/Object"), (0, u "<init>"), (0, u "()V"), (0, .methodref 8 9), (0, .class_ 10), (0, .nameAndType 11 12), (0, u "java/lang/String"), (0, u "isEmpty"), (0, u "()Z"), (0, .methodref 8 14), (0, .nameAndType 15 16), (0, u "length"), (0, u "()I"), (0, .class_ 18), (0, u "com/example/stowage/stowage/model/Names"), (0, .methodref 17 20), (0, .nameAndType 21 22), (0, u "madeOf"), (0, u "(Ljava/lang/String;Z)Z"), (10, u "isName"), (0, u "(Ljava/lang/String;)Z"), (15, .methodref 8 51), (0, .nameAndType 52 53), (0, u "charAt"), (0, u "(I)C"), (42, u "MAX_NAME"), (0, u "I"), (2, u "MAX_QUOTED")] 25

def k8m0 : Method := { name := "<init>", desc := "()V", sig := { parameters := [], returnType := none }, accessFlags := 2, code := none }
def k8c1 : Code := { maxStack := 2, maxLocals := 1, code := prog_7_method_2_code, exceptionTable := #[], attributes := #[] }
def k8m1 : Method := { name := "isName", desc := "(Ljava/lang/String;)Z", sig := { parameters := [(.object "java/lang/String")], returnType := some .boolean }, accessFlags := 9, code := some k8c1 }
def k8c2 : Code := { maxStack := 2, maxLocals := 5, code := prog_7_method_5_code, exceptionTable := #[], attributes := #[] }
def k8m2 : Method := { name := "madeOf", desc := "(Ljava/lang/String;Z)Z", sig := { parameters := [(.object "java/lang/String"), .boolean], returnType := some .boolean }, accessFlags := 10, code := some k8c2 }
/-- com/example/stowage/stowage/model/Names -/
def k8 : Class := { plain "com/example/stowage/stowage/model/Names" (some 0) with
  accessFlags := 33
  interfaces := #[]
  cf := some (fileOf pool8 17 #[] #[{ accessFlags := 2, nameIndex := 5, descriptorIndex := 6, attributes := #[] }, { accessFlags := 9, nameIndex := 33, descriptorIndex := 34, attributes := #[] }, { accessFlags := 10, nameIndex := 21, descriptorIndex := 22, attributes := #[] }] 33 2 #[] #[{ accessFlags := 26, nameIndex := 96, descriptorIndex := 97, attributes := #[] }, { accessFlags := 26, nameIndex := 100, descriptorIndex := 97, attributes := #[] }])
  fields := #[{ name := "MAX_NAME", type := .int, accessFlags := 26, slot := 0, constantValue := 0 }, { name := "MAX_QUOTED", type := .int, accessFlags := 26, slot := 1, constantValue := 0 }]
  methods := #[k8m0, k8m1, k8m2]
  instanceTypes := #[]
  staticTypes := #[.int, .int]
  resolved := Array.replicate 126 none
  statics := none }

def pool9 : Array CpInfo := pool [(3, .class_ 4), (0, u "java/lang/String"), (1, .class_ 8), (1, u "java/lang/Object"), (0, u "<init>"), (0, u "()V"), (0, .methodref 12 13), (0, .class_ 14), (0, .nameAndType 15 16), (0, u "java/lang/StringUTF16"), (0, u "newBytesLength"), (0, u "(I)I"), (3, .integer 1073741823), (23, .fieldref 12 45), (0, .nameAndType 46 47), (0, u "$assertionsDisabled"), (0, u "Z"), (0, .methodref 12 49), (0, .nameAndType 50 51), (0, u "length"), (0, u "([B)I"), (7, .fieldref 12 60), (0, .nameAndType 61 62), (0, u "HI_BYTE_SHIFT"), (0, u "I"), (0, .fieldref 12 64), (0, .nameAndType 65 62), (0, u "LO_BYTE_SHIFT"), (1, .methodref 12 68), (0, .nameAndType 69 70), (0, u "checkIndex"), (0, u "(I[B)V"), (0, .methodref 12 72), (0, .nameAndType 73 74), (0, u "getChar"), (0, u "([BI)C"), (32, .methodref 12 108), (0, .nameAndType 109 110), (0, u "newBytesFor"), (0, u "(I)[B"), (0, .methodref 12 112), (0, .nameAndType 113 114), (0, u "putChar"), (0, u "([BII)V"), (0, .methodref 12 116), (0, .nameAndType 117 118), (0, u "compress"), (0, u "([CI[BII)I"), (0, .methodref 12 120), (0, .nameAndType 121 122), (0, u "toBytes"), (0, u "([CII)[B"), (138, u "coderFromArrayLen"), (0, u "([BI)B"), (106, .class_ 371), (1, u "java/lang/StringUTF16$LinesSpliterator"), (20, u "charAt"), (21, .methodref 3 415), (0, .nameAndType 69 416), (0, u "(II)V"), (13, u "MAX_LENGTH"), (196, .class_ 628), (0, u "java/lang/StringUTF16$CodePointsSpliterator"), (0, .class_ 630), (0, u "java/lang/StringUTF16$CharsSpliterator")] 4

def k9m0 : Method := { name := "<init>", desc := "()V", sig := { parameters := [], returnType := none }, accessFlags := 0, code := none }
def k9c1 : Code := { maxStack := 1, maxLocals := 1, code := jdk_52_method_2_code, exceptionTable := #[], attributes := #[] }
def k9m1 : Method := { name := "newBytesFor", desc := "(I)[B", sig := { parameters := [.int], returnType := some (.array .byte) }, accessFlags := 9, code := some k9c1 }
def k9c2 : Code := { maxStack := 4, maxLocals := 1, code := jdk_52_method_3_code, exceptionTable := #[], attributes := #[] }
def k9m2 : Method := { name := "newBytesLength", desc := "(I)I", sig := { parameters := [.int], returnType := some .int }, accessFlags := 9, code := some k9c2 }
def k9c3 : Code := { maxStack := 4, maxLocals := 3, code := jdk_52_method_4_code, exceptionTable := #[], attributes := #[] }
def k9m3 : Method := { name := "putChar", desc := "([BII)V", sig := { parameters := [(.array .byte), .int, .int], returnType := none }, accessFlags := 8, code := some k9c3 }
def k9c4 : Code := { maxStack := 3, maxLocals := 2, code := jdk_52_method_5_code, exceptionTable := #[], attributes := #[] }
def k9m4 : Method := { name := "getChar", desc := "([BI)C", sig := { parameters := [(.array .byte), .int], returnType := some .char }, accessFlags := 8, code := some k9c4 }
def k9c5 : Code := { maxStack := 2, maxLocals := 1, code := jdk_52_method_6_code, exceptionTable := #[], attributes := #[] }
def k9m5 : Method := { name := "length", desc := "([B)I", sig := { parameters := [(.array .byte)], returnType := some .int }, accessFlags := 9, code := some k9c5 }
def k9c6 : Code := { maxStack := 4, maxLocals := 5, code := jdk_52_method_14_code, exceptionTable := #[], attributes := #[] }
def k9m6 : Method := { name := "toBytes", desc := "([CII)[B", sig := { parameters := [(.array .char), .int, .int], returnType := some (.array .byte) }, accessFlags := 9, code := some k9c6 }
def k9c7 : Code := { maxStack := 2, maxLocals := 2, code := jdk_52_method_15_code, exceptionTable := #[], attributes := #[] }
def k9m7 : Method := { name := "coderFromArrayLen", desc := "([BI)B", sig := { parameters := [(.array .byte), .int], returnType := some .byte }, accessFlags := 8, code := some k9c7 }
def k9c8 : Code := { maxStack := 5, maxLocals := 6, code := jdk_52_method_16_code, exceptionTable := #[], attributes := #[] }
def k9m8 : Method := { name := "compress", desc := "([CII)[B", sig := { parameters := [(.array .char), .int, .int], returnType := some (.array .byte) }, accessFlags := 9, code := some k9c8 }
def k9c9 : Code := { maxStack := 3, maxLocals := 7, code := jdk_52_method_21_code, exceptionTable := #[], attributes := #[] }
def k9m9 : Method := { name := "compress", desc := "([CI[BII)I", sig := { parameters := [(.array .char), .int, (.array .byte), .int, .int], returnType := some .int }, accessFlags := 9, code := some k9c9 }
def k9c10 : Code := { maxStack := 2, maxLocals := 2, code := jdk_52_method_83_code, exceptionTable := #[], attributes := #[] }
def k9m10 : Method := { name := "charAt", desc := "([BI)C", sig := { parameters := [(.array .byte), .int], returnType := some .char }, accessFlags := 9, code := some k9c10 }
def k9c11 : Code := { maxStack := 2, maxLocals := 2, code := jdk_52_method_91_code, exceptionTable := #[], attributes := #[] }
def k9m11 : Method := { name := "checkIndex", desc := "(I[B)V", sig := { parameters := [.int, (.array .byte)], returnType := none }, accessFlags := 9, code := some k9c11 }
/-- java/lang/StringUTF16 -/
def k9 : Class := { plain "java/lang/StringUTF16" (some 0) with
  accessFlags := 48
  interfaces := #[]
  cf := some (fileOf pool9 12 #[.nestMembers #[627, 629, 369]] #[{ accessFlags := 0, nameIndex := 9, descriptorIndex := 10, attributes := #[] }, { accessFlags := 9, nameIndex := 109, descriptorIndex := 110, attributes := #[] }, { accessFlags := 9, nameIndex := 15, descriptorIndex := 16, attributes := #[] }, { accessFlags := 8, nameIndex := 113, descriptorIndex := 114, attributes := #[] }, { accessFlags := 8, nameIndex := 73, descriptorIndex := 74, attributes := #[] }, { accessFlags := 9, nameIndex := 50, descriptorIndex := 51, attributes := #[] }, { accessFlags := 9, nameIndex := 121, descriptorIndex := 122, attributes := #[] }, { accessFlags := 8, nameIndex := 261, descriptorIndex := 262, attributes := #[] }, { accessFlags := 9, nameIndex := 117, descriptorIndex := 122, attributes := #[] }, { accessFlags := 9, nameIndex := 117, descriptorIndex := 118, attributes := #[] }, { accessFlags := 9, nameIndex := 392, descriptorIndex := 74, attributes := #[] }, { accessFlags := 9, nameIndex := 69, descriptorIndex := 70, attributes := #[] }] 48 6 #[] #[{ accessFlags := 26, nameIndex := 61, descriptorIndex := 62, attributes := #[] }, { accessFlags := 26, nameIndex := 65, descriptorIndex := 62, attributes := #[] }, { accessFlags := 24, nameIndex := 430, descriptorIndex := 62, attributes := #[] }, { accessFlags := 4120, nameIndex := 46, descriptorIndex := 47, attributes := #[] }])
  fields := #[{ name := "HI_BYTE_SHIFT", type := .int, accessFlags := 26, slot := 0, constantValue := 0 }, { name := "LO_BYTE_SHIFT", type := .int, accessFlags := 26, slot := 1, constantValue := 0 }, { name := "MAX_LENGTH", type := .int, accessFlags := 24, slot := 2, constantValue := 0 }, { name := "$assertionsDisabled", type := .boolean, accessFlags := 4120, slot := 3, constantValue := 0 }]
  methods := #[k9m0, k9m1, k9m2, k9m3, k9m4, k9m5, k9m6, k9m7, k9m8, k9m9, k9m10, k9m11]
  instanceTypes := #[]
  staticTypes := #[.int, .int, .int, .boolean]
  resolved := Array.replicate 635 none
  statics := some 1 }

def pool10 : Array CpInfo := pool [(1, .class_ 2), (0, u "java/lang/String"), (1, .class_ 6), (1, u "java/lang/Object"), (0, u "<init>"), (0, u "()V"), (0, .methodref 1 10), (0, .nameAndType 11 12), (0, u "checkIndex"), (0, u "(II)V"), (1, .class_ 16), (1, u "java/lang/StringLatin1"), (36, u "([BI)C"), (67, u "$assertionsDisabled"), (0, u "Z"), (98, .class_ 223), (1, u "java/lang/StringLatin1$LinesSpliterator"), (28, u "charAt"), (137, .class_ 391), (0, u "java/lang/StringLatin1$CharsSpliterator")] 3

def k10m0 : Method := { name := "<init>", desc := "()V", sig := { parameters := [], returnType := none }, accessFlags := 0, code := none }
def k10c1 : Code := { maxStack := 2, maxLocals := 2, code := jdk_43_method_2_code, exceptionTable := #[], attributes := #[] }
def k10m1 : Method := { name := "charAt", desc := "([BI)C", sig := { parameters := [(.array .byte), .int], returnType := some .char }, accessFlags := 9, code := some k10c1 }
/-- java/lang/StringLatin1 -/
def k10 : Class := { plain "java/lang/StringLatin1" (some 0) with
  accessFlags := 48
  interfaces := #[]
  cf := some (fileOf pool10 14 #[.nestMembers #[390, 221]] #[{ accessFlags := 0, nameIndex := 7, descriptorIndex := 8, attributes := #[] }, { accessFlags := 9, nameIndex := 252, descriptorIndex := 53, attributes := #[] }] 48 4 #[] #[{ accessFlags := 4120, nameIndex := 121, descriptorIndex := 122, attributes := #[] }])
  fields := #[{ name := "$assertionsDisabled", type := .boolean, accessFlags := 4120, slot := 0, constantValue := 0 }]
  methods := #[k10m0, k10m1]
  instanceTypes := #[]
  staticTypes := #[.boolean]
  resolved := Array.replicate 395 none
  statics := none }

def pool11 : Array CpInfo := pool [(2, .class_ 4), (1, u "java/lang/Object"), (0, u "<init>"), (0, u "()V"), (17, .class_ 26), (1, u "jdk/internal/util/Preconditions"), (6, u "checkIndex"), (21, .class_ 56), (0, u "jdk/internal/util/Preconditions$4"), (57, .class_ 115), (0, u "jdk/internal/util/Preconditions$1"), (7, u "SIOOBE_FORMATTER"), (0, u "Ljava/util/function/BiFunction;"), (0, .class_ 126), (0, u "jdk/internal/util/Preconditions$2"), (3, u "AIOOBE_FORMATTER"), (0, .class_ 132), (0, u "jdk/internal/util/Preconditions$3"), (3, u "IOOBE_FORMATTER"), (41, u "(IILjava/util/function/BiFunction;)I")] 15

def k11m0 : Method := { name := "<init>", desc := "()V", sig := { parameters := [], returnType := none }, accessFlags := 1, code := none }
def k11c1 : Code := { maxStack := 3, maxLocals := 3, code := jdk_41_method_11_code, exceptionTable := #[], attributes := #[] }
def k11m1 : Method := { name := "checkIndex", desc := "(IILjava/util/function/BiFunction;)I", sig := { parameters := [.int, .int, (.object "java/util/function/BiFunction")], returnType := some .int }, accessFlags := 9, code := some k11c1 }
/-- jdk/internal/util/Preconditions -/
def k11 : Class := { plain "jdk/internal/util/Preconditions" (some 0) with
  accessFlags := 33
  interfaces := #[]
  cf := some (fileOf pool11 24 #[.nestMembers #[55, 131, 125, 114]] #[{ accessFlags := 1, nameIndex := 5, descriptorIndex := 6, attributes := #[] }, { accessFlags := 9, nameIndex := 33, descriptorIndex := 178, attributes := #[] }] 33 2 #[] #[{ accessFlags := 25, nameIndex := 123, descriptorIndex := 124, attributes := #[] }, { accessFlags := 25, nameIndex := 130, descriptorIndex := 124, attributes := #[] }, { accessFlags := 25, nameIndex := 136, descriptorIndex := 124, attributes := #[] }])
  fields := #[{ name := "SIOOBE_FORMATTER", type := (.object "java/util/function/BiFunction"), accessFlags := 25, slot := 0, constantValue := 0 }, { name := "AIOOBE_FORMATTER", type := (.object "java/util/function/BiFunction"), accessFlags := 25, slot := 1, constantValue := 0 }, { name := "IOOBE_FORMATTER", type := (.object "java/util/function/BiFunction"), accessFlags := 25, slot := 2, constantValue := 0 }]
  methods := #[k11m0, k11m1]
  instanceTypes := #[]
  staticTypes := #[(.object "java/util/function/BiFunction"), (.object "java/util/function/BiFunction"), (.object "java/util/function/BiFunction")]
  resolved := Array.replicate 194 none
  statics := some 2 }

def pool12 : Array CpInfo := pool [(9, u "<init>"), (6, .class_ 18), (1, u "java/lang/Object"), (0, u "()V"), (1, .class_ 23), (1, u "jdk/internal/util/ArraysSupport"), (0, u "LOG2_ARRAY_LONG_INDEX_SCALE"), (0, u "I"), (2, u "U"), (0, u "Ljdk/internal/misc/Unsafe;"), (8, u "BIG_ENDIAN"), (0, u "Z"), (8, u "LOG2_BYTE_BIT_SIZE"), (4, u "LOG2_ARRAY_INT_INDEX_SCALE"), (54, u "JLA"), (0, u "Ljdk/internal/access/JavaLangAccess;"), (11, u "LOG2_ARRAY_BOOLEAN_INDEX_SCALE"), (9, u "LOG2_ARRAY_BYTE_INDEX_SCALE"), (5, u "LOG2_ARRAY_CHAR_INDEX_SCALE"), (5, u "LOG2_ARRAY_SHORT_INDEX_SCALE"), (18, u "LOG2_ARRAY_FLOAT_INDEX_SCALE"), (24, u "LOG2_ARRAY_DOUBLE_INDEX_SCALE"), (89, u "T_BOOLEAN"), (2, u "T_CHAR"), (1, u "T_FLOAT"), (1, u "T_DOUBLE"), (1, u "T_BYTE"), (1, u "T_SHORT"), (1, u "T_INT"), (1, u "T_LONG"), (1, u "SOFT_MAX_ARRAY_LENGTH")] 83

def k12m0 : Method := { name := "<init>", desc := "()V", sig := { parameters := [], returnType := none }, accessFlags := 2, code := none }
/-- jdk/internal/util/ArraysSupport -/
def k12 : Class := { plain "jdk/internal/util/ArraysSupport" (some 0) with
  accessFlags := 33
  interfaces := #[]
  cf := some (fileOf pool12 21 #[] #[{ accessFlags := 2, nameIndex := 9, descriptorIndex := 19, attributes := #[] }] 33 16 #[] #[{ accessFlags := 24, nameIndex := 28, descriptorIndex := 29, attributes := #[] }, { accessFlags := 26, nameIndex := 38, descriptorIndex := 39, attributes := #[] }, { accessFlags := 25, nameIndex := 121, descriptorIndex := 25, attributes := #[] }, { accessFlags := 25, nameIndex := 131, descriptorIndex := 25, attributes := #[] }, { accessFlags := 25, nameIndex := 137, descriptorIndex := 25, attributes := #[] }, { accessFlags := 25, nameIndex := 143, descriptorIndex := 25, attributes := #[] }, { accessFlags := 25, nameIndex := 53, descriptorIndex := 25, attributes := #[] }, { accessFlags := 25, nameIndex := 24, descriptorIndex := 25, attributes := #[] }, { accessFlags := 25, nameIndex := 162, descriptorIndex := 25, attributes := #[] }, { accessFlags := 25, nameIndex := 187, descriptorIndex := 25, attributes := #[] }, { accessFlags := 26, nameIndex := 48, descriptorIndex := 25, attributes := #[] }, { accessFlags := 25, nameIndex := 277, descriptorIndex := 25, attributes := #[] }, { accessFlags := 25, nameIndex := 280, descriptorIndex := 25, attributes := #[] }, { accessFlags := 25, nameIndex := 282, descriptorIndex := 25, attributes := #[] }, { accessFlags := 25, nameIndex := 284, descriptorIndex := 25, attributes := #[] }, { accessFlags := 25, nameIndex := 286, descriptorIndex := 25, attributes := #[] }, { accessFlags := 25, nameIndex := 288, descriptorIndex := 25, attributes := #[] }, { accessFlags := 25, nameIndex := 290, descriptorIndex := 25, attributes := #[] }, { accessFlags := 25, nameIndex := 292, descriptorIndex := 25, attributes := #[] }, { accessFlags := 26, nameIndex := 108, descriptorIndex := 109, attributes := #[] }, { accessFlags := 25, nameIndex := 294, descriptorIndex := 25, attributes := #[] }])
  fields := #[{ name := "U", type := (.object "jdk/internal/misc/Unsafe"), accessFlags := 24, slot := 0, constantValue := 0 }, { name := "BIG_ENDIAN", type := .boolean, accessFlags := 26, slot := 1, constantValue := 0 }, { name := "LOG2_ARRAY_BOOLEAN_INDEX_SCALE", type := .int, accessFlags := 25, slot := 2, constantValue := 0 }, { name := "LOG2_ARRAY_BYTE_INDEX_SCALE", type := .int, accessFlags := 25, slot := 3, constantValue := 0 }, { name := "LOG2_ARRAY_CHAR_INDEX_SCALE", type := .int, accessFlags := 25, slot := 4, constantValue := 0 }, { name := "LOG2_ARRAY_SHORT_INDEX_SCALE", type := .int, accessFlags := 25, slot := 5, constantValue := 0 }, { name := "LOG2_ARRAY_INT_INDEX_SCALE", type := .int, accessFlags := 25, slot := 6, constantValue := 0 }, { name := "LOG2_ARRAY_LONG_INDEX_SCALE", type := .int, accessFlags := 25, slot := 7, constantValue := 0 }, { name := "LOG2_ARRAY_FLOAT_INDEX_SCALE", type := .int, accessFlags := 25, slot := 8, constantValue := 0 }, { name := "LOG2_ARRAY_DOUBLE_INDEX_SCALE", type := .int, accessFlags := 25, slot := 9, constantValue := 0 }, { name := "LOG2_BYTE_BIT_SIZE", type := .int, accessFlags := 26, slot := 10, constantValue := 0 }, { name := "T_BOOLEAN", type := .int, accessFlags := 25, slot := 11, constantValue := 0 }, { name := "T_CHAR", type := .int, accessFlags := 25, slot := 12, constantValue := 0 }, { name := "T_FLOAT", type := .int, accessFlags := 25, slot := 13, constantValue := 0 }, { name := "T_DOUBLE", type := .int, accessFlags := 25, slot := 14, constantValue := 0 }, { name := "T_BYTE", type := .int, accessFlags := 25, slot := 15, constantValue := 0 }, { name := "T_SHORT", type := .int, accessFlags := 25, slot := 16, constantValue := 0 }, { name := "T_INT", type := .int, accessFlags := 25, slot := 17, constantValue := 0 }, { name := "T_LONG", type := .int, accessFlags := 25, slot := 18, constantValue := 0 }, { name := "JLA", type := (.object "jdk/internal/access/JavaLangAccess"), accessFlags := 26, slot := 19, constantValue := 0 }, { name := "SOFT_MAX_ARRAY_LENGTH", type := .int, accessFlags := 25, slot := 20, constantValue := 0 }]
  methods := #[k12m0]
  instanceTypes := #[]
  staticTypes := #[(.object "jdk/internal/misc/Unsafe"), .boolean, .int, .int, .int, .int, .int, .int, .int, .int, .int, .int, .int, .int, .int, .int, .int, .int, .int, (.object "jdk/internal/access/JavaLangAccess"), .int]
  resolved := Array.replicate 378 none
  statics := none }

def pool13 : Array CpInfo := pool [(1, u "java/lang/Cloneable"), (0, .class_ 1), (0, u "java/lang/Object"), (0, .class_ 3)] 3

/-- java/lang/Cloneable -/
def k13 : Class := { plain "java/lang/Cloneable" (some 0) with
  accessFlags := 1537
  interfaces := #[]
  cf := some (fileOf pool13 2 #[] #[] 1537 4 #[] #[])
  fields := #[]
  methods := #[]
  instanceTypes := #[]
  staticTypes := #[]
  resolved := Array.replicate 8 none
  statics := none }

/-- the primitive byte -/
def k14 : Class := { plain "byte" none with kind := .primitive 'B', accessFlags := 0x411 }
/-- [B -/
def k15 : Class := { plain "[B" (some 0) with kind := .array 14 .byte, interfaces := #[13, 2], accessFlags := 1041 }

/-- the primitive char -/
def k16 : Class := { plain "char" none with kind := .primitive 'C', accessFlags := 0x411 }
/-- [C -/
def k17 : Class := { plain "[C" (some 0) with kind := .array 16 .char, interfaces := #[13, 2], accessFlags := 1041 }

/-- the primitive int -/
def k18 : Class := { plain "int" none with kind := .primitive 'I', accessFlags := 0x411 }
/-- [I -/
def k19 : Class := { plain "[I" (some 0) with kind := .array 18 .int, interfaces := #[13, 2], accessFlags := 1041 }

def heap : Heap := #[{ cls := 7, slots := #[.long 0, .int 1, .null, .int 0, .null, .int 0, .int 0], vm := .statics 7 },
  { cls := 9, slots := #[.int 0, .int 8, .int 0, .int 1], vm := .statics 9 },
  { cls := 11, slots := #[.null, .null, .null], vm := .statics 11 }]
def classes : Array Class := #[k0, k1, k2, k3, k4, k5, k6, k7, k8, k9, k10, k11, k12, k13, k14, k15, k16, k17, k18, k19]
def interned : List (Array UInt16 × Addr) := []
def slotsUsed : Nat := 14
def theMethod : MethodId := ⟨1, 2⟩
def args0 : Array Value := #[.int 3, .int 97, .int 98, .int 99, .int 100]
def aboutOver (below : List Frame) : State where
  vm := { classes := classes, interned := interned.toArray }
  heap := heap
  slotsUsed := slotsUsed
  threads := #[{ frames := .invoking theMethod args0 :: below }]
def below0 : List Frame := [.native { method := ⟨0, 0⟩, args := #[] }]
def about1 : State := aboutOver below0
def p0 : Program := .bare "" "" ""
def e0 : Env := launch0.env 0 0 0
theorem w_frames : about1.frames = Frame.invoking theMethod args0 :: below0 := rfl
set_option maxRecDepth 65536 in
theorem w_args : argsFit about1.vm theMethod args0 = true := by decide +kernel
set_option maxRecDepth 65536 in
theorem w_heap : heapFits about1 = true := by decide +kernel
set_option maxRecDepth 65536 in
theorem w_runnable : about1.curStatus? = some .runnable := by decide +kernel
set_option maxRecDepth 65536 in
theorem w_alone : about1.alone = true := by decide +kernel
set_option maxRecDepth 65536 in
theorem w_named : about1.methodNamed? x = some theMethod := by decide +kernel
set_option maxRecDepth 65536 in
theorem w_hears : about1.hears theMethod below0 = true := by decide +kernel
set_option maxRecDepth 65536 in
theorem w_ripe : about1.ripe theMethod args0 below0 = true := by decide +kernel
theorem w_running : about1.status = .running := rfl
set_option maxRecDepth 65536 in
theorem w_room : about1.hasRoom e0.platform room_1 = true :=
  launch0.hasRoom_least _ room_1 (by decide +kernel) (by decide +kernel) (by decide +kernel) (by decide +kernel) (by decide +kernel) (by decide +kernel)
theorem allAtoms_all (ts : List Jvm.Cond) (a : Array Jvm.Value) (st : Jvm.State) : (allAtoms ts).before a st = ts.all (fun c => c.before a st) := by
  induction ts with
  | nil => rfl
  | cons c t ih =>
    show (Jvm.Cond.and c (allAtoms t)).before a st = _
    rw [Jvm.Cond.before_and, ih, List.all_cons]
def words1 : List Jvm.Cond := Jvm.Cond.code x code maxLocals ret :: tables_1
/-- a 'code' word, met by the world's own term for the bytes: nothing is compared byte by byte -/
theorem code_word {y : MethodName} {bytes : ByteArray} {mx : Nat} {rt : Option FieldType} {a : Array Value} {s : State} {m : MethodId} {meth : Method} {c : Code} (h1 : s.methodNamed? y = some m) (h2 : s.vm.method? m = some meth) (h3 : meth.code = some c) (h4 : c.code = bytes)
    (h5 : (c.maxLocals == mx && c.exceptionTable.isEmpty && decide (c.maxStack ≤ mostOperands) && decide (meth.sig.returnType = rt) && !meth.locks && decide (parseMethodDescriptor y.desc = some meth.sig)) = true) : (Jvm.Cond.code y bytes mx rt).before a s = true := by
  simp only [Bool.and_eq_true, beq_iff_eq, Bool.not_eq_true', decide_eq_true_eq] at h5
  obtain ⟨⟨⟨⟨⟨g1, g2⟩, g3⟩, g4⟩, g5⟩, g6⟩ := h5
  simp [Cond.before, Cond.holds, Cond.value, h1, h2, h3, h4, g1, g2, g3, g4, g5, g6]
def isCode : Jvm.Cond → Bool
  | .code _ _ _ _ => true
  | _ => false
theorem all_split {L : List Jvm.Cond} {P : Jvm.Cond → Bool} (h1 : L.all (fun c => isCode c || P c) = true) (h2 : ∀ c ∈ L.filter isCode, P c = true) : L.all P = true := by
  refine List.all_eq_true.mpr fun c hc => ?_
  have h := List.all_eq_true.mp h1 c hc
  rcases Bool.eq_false_or_eq_true (isCode c) with hi | hi
  · exact h2 c (List.mem_filter.mpr ⟨hc, hi⟩)
  · simpa [hi] using h
set_option maxRecDepth 65536 in
theorem w_c0 : (Jvm.Cond.code x code maxLocals ret).before args0 about1 = true := code_word (m := ⟨1, 2⟩) (meth := k1m2) (c := k1c2) (by decide +kernel) rfl rfl rfl (by decide +kernel)
set_option maxRecDepth 65536 in
theorem w_c1 : (Jvm.Cond.code ({ cls := "com/example/stowage/stowage/model/Names", name := "isName", desc := "(Ljava/lang/String;)Z" } : Jvm.MethodName) prog_7_method_2_code (1 : Nat) (Option.some Jvm.ClassFile.FieldType.boolean)).before args0 about1 = true := code_word (m := ⟨8, 1⟩) (meth := k8m1) (c := k8c1) (by decide +kernel) rfl rfl rfl (by decide +kernel)
set_option maxRecDepth 65536 in
theorem w_c2 : (Jvm.Cond.code ({ cls := "java/lang/String", name := "isEmpty", desc := "()Z" } : Jvm.MethodName) jdk_42_method_55_code (1 : Nat) (Option.some Jvm.ClassFile.FieldType.boolean)).before args0 about1 = true := code_word (m := ⟨7, 3⟩) (meth := k7m3) (c := k7c3) (by decide +kernel) rfl rfl rfl (by decide +kernel)
set_option maxRecDepth 65536 in
theorem w_c3 : (Jvm.Cond.code ({ cls := "java/lang/String", name := "<init>", desc := "([C)V" } : Jvm.MethodName) jdk_42_method_3_code (2 : Nat) (Option.none : Option Jvm.ClassFile.FieldType)).before args0 about1 = true := code_word (m := ⟨7, 1⟩) (meth := k7m1) (c := k7c1) (by decide +kernel) rfl rfl rfl (by decide +kernel)
set_option maxRecDepth 65536 in
theorem w_c4 : (Jvm.Cond.code ({ cls := "java/lang/String", name := "<init>", desc := "([CIILjava/lang/Void;)V" } : Jvm.MethodName) jdk_42_method_149_code (6 : Nat) (Option.none : Option Jvm.ClassFile.FieldType)).before args0 about1 = true := code_word (m := ⟨7, 5⟩) (meth := k7m5) (c := k7c5) (by decide +kernel) rfl rfl rfl (by decide +kernel)
set_option maxRecDepth 65536 in
theorem w_c5 : (Jvm.Cond.code ({ cls := "java/lang/Object", name := "<init>", desc := "()V" } : Jvm.MethodName) object_method_1_code (1 : Nat) (Option.none : Option Jvm.ClassFile.FieldType)).before args0 about1 = true := code_word (m := ⟨0, 0⟩) (meth := k0m0) (c := k0c0) (by decide +kernel) rfl rfl rfl (by decide +kernel)
set_option maxRecDepth 65536 in
theorem w_c6 : (Jvm.Cond.code ({ cls := "java/lang/StringUTF16", name := "compress", desc := "([CII)[B" } : Jvm.MethodName) jdk_52_method_16_code (6 : Nat) (Option.some (Jvm.ClassFile.FieldType.array Jvm.ClassFile.FieldType.byte))).before args0 about1 = true := code_word (m := ⟨9, 8⟩) (meth := k9m8) (c := k9c8) (by decide +kernel) rfl rfl rfl (by decide +kernel)
set_option maxRecDepth 65536 in
theorem w_c7 : (Jvm.Cond.code ({ cls := "java/lang/StringUTF16", name := "compress", desc := "([CI[BII)I" } : Jvm.MethodName) jdk_52_method_21_code (7 : Nat) (Option.some Jvm.ClassFile.FieldType.int)).before args0 about1 = true := code_word (m := ⟨9, 9⟩) (meth := k9m9) (c := k9c9) (by decide +kernel) rfl rfl rfl (by decide +kernel)
set_option maxRecDepth 65536 in
theorem w_c8 : (Jvm.Cond.code ({ cls := "java/lang/StringUTF16", name := "coderFromArrayLen", desc := "([BI)B" } : Jvm.MethodName) jdk_52_method_15_code (2 : Nat) (Option.some Jvm.ClassFile.FieldType.byte)).before args0 about1 = true := code_word (m := ⟨9, 7⟩) (meth := k9m7) (c := k9c7) (by decide +kernel) rfl rfl rfl (by decide +kernel)
set_option maxRecDepth 65536 in
theorem w_c9 : (Jvm.Cond.code ({ cls := "com/example/stowage/stowage/model/NamesIsNamePinLaw", name := "ok", desc := "(C)Z" } : Jvm.MethodName) method_2_code (1 : Nat) (Option.some Jvm.ClassFile.FieldType.boolean)).before args0 about1 = true := code_word (m := ⟨1, 1⟩) (meth := k1m1) (c := k1c1) (by decide +kernel) rfl rfl rfl (by decide +kernel)
set_option maxRecDepth 65536 in
theorem w_c10 : (Jvm.Cond.code ({ cls := "java/lang/String", name := "length", desc := "()I" } : Jvm.MethodName) jdk_42_method_54_code (1 : Nat) (Option.some Jvm.ClassFile.FieldType.int)).before args0 about1 = true := code_word (m := ⟨7, 2⟩) (meth := k7m2) (c := k7c2) (by decide +kernel) rfl rfl rfl (by decide +kernel)
set_option maxRecDepth 65536 in
theorem w_c11 : (Jvm.Cond.code ({ cls := "java/lang/String", name := "coder", desc := "()B" } : Jvm.MethodName) jdk_42_method_152_code (1 : Nat) (Option.some Jvm.ClassFile.FieldType.byte)).before args0 about1 = true := code_word (m := ⟨7, 6⟩) (meth := k7m6) (c := k7c6) (by decide +kernel) rfl rfl rfl (by decide +kernel)
set_option maxRecDepth 65536 in
theorem w_c12 : (Jvm.Cond.code ({ cls := "com/example/stowage/stowage/model/Names", name := "madeOf", desc := "(Ljava/lang/String;Z)Z" } : Jvm.MethodName) prog_7_method_5_code (5 : Nat) (Option.some Jvm.ClassFile.FieldType.boolean)).before args0 about1 = true := code_word (m := ⟨8, 2⟩) (meth := k8m2) (c := k8c2) (by decide +kernel) rfl rfl rfl (by decide +kernel)
set_option maxRecDepth 65536 in
theorem w_c13 : (Jvm.Cond.code ({ cls := "java/lang/String", name := "charAt", desc := "(I)C" } : Jvm.MethodName) jdk_42_method_56_code (2 : Nat) (Option.some Jvm.ClassFile.FieldType.char)).before args0 about1 = true := code_word (m := ⟨7, 4⟩) (meth := k7m4) (c := k7c4) (by decide +kernel) rfl rfl rfl (by decide +kernel)
set_option maxRecDepth 65536 in
theorem w_c14 : (Jvm.Cond.code ({ cls := "java/lang/String", name := "isLatin1", desc := "()Z" } : Jvm.MethodName) jdk_42_method_154_code (1 : Nat) (Option.some Jvm.ClassFile.FieldType.boolean)).before args0 about1 = true := code_word (m := ⟨7, 7⟩) (meth := k7m7) (c := k7c7) (by decide +kernel) rfl rfl rfl (by decide +kernel)
set_option maxRecDepth 65536 in
theorem w_c15 : (Jvm.Cond.code ({ cls := "java/lang/StringLatin1", name := "charAt", desc := "([BI)C" } : Jvm.MethodName) jdk_43_method_2_code (2 : Nat) (Option.some Jvm.ClassFile.FieldType.char)).before args0 about1 = true := code_word (m := ⟨10, 1⟩) (meth := k10m1) (c := k10c1) (by decide +kernel) rfl rfl rfl (by decide +kernel)
set_option maxRecDepth 65536 in
theorem w_c16 : (Jvm.Cond.code ({ cls := "java/lang/String", name := "checkIndex", desc := "(II)V" } : Jvm.MethodName) jdk_42_method_155_code (2 : Nat) (Option.none : Option Jvm.ClassFile.FieldType)).before args0 about1 = true := code_word (m := ⟨7, 8⟩) (meth := k7m8) (c := k7c8) (by decide +kernel) rfl rfl rfl (by decide +kernel)
set_option maxRecDepth 65536 in
theorem w_c17 : (Jvm.Cond.code ({ cls := "jdk/internal/util/Preconditions", name := "checkIndex", desc := "(IILjava/util/function/BiFunction;)I" } : Jvm.MethodName) jdk_41_method_11_code (3 : Nat) (Option.some Jvm.ClassFile.FieldType.int)).before args0 about1 = true := code_word (m := ⟨11, 1⟩) (meth := k11m1) (c := k11c1) (by decide +kernel) rfl rfl rfl (by decide +kernel)
set_option maxRecDepth 65536 in
theorem w_c18 : (Jvm.Cond.code ({ cls := "java/lang/StringUTF16", name := "toBytes", desc := "([CII)[B" } : Jvm.MethodName) jdk_52_method_14_code (5 : Nat) (Option.some (Jvm.ClassFile.FieldType.array Jvm.ClassFile.FieldType.byte))).before args0 about1 = true := code_word (m := ⟨9, 6⟩) (meth := k9m6) (c := k9c6) (by decide +kernel) rfl rfl rfl (by decide +kernel)
set_option maxRecDepth 65536 in
theorem w_c19 : (Jvm.Cond.code ({ cls := "java/lang/StringUTF16", name := "newBytesFor", desc := "(I)[B" } : Jvm.MethodName) jdk_52_method_2_code (1 : Nat) (Option.some (Jvm.ClassFile.FieldType.array Jvm.ClassFile.FieldType.byte))).before args0 about1 = true := code_word (m := ⟨9, 1⟩) (meth := k9m1) (c := k9c1) (by decide +kernel) rfl rfl rfl (by decide +kernel)
set_option maxRecDepth 65536 in
theorem w_c20 : (Jvm.Cond.code ({ cls := "java/lang/StringUTF16", name := "newBytesLength", desc := "(I)I" } : Jvm.MethodName) jdk_52_method_3_code (1 : Nat) (Option.some Jvm.ClassFile.FieldType.int)).before args0 about1 = true := code_word (m := ⟨9, 2⟩) (meth := k9m2) (c := k9c2) (by decide +kernel) rfl rfl rfl (by decide +kernel)
set_option maxRecDepth 65536 in
theorem w_c21 : (Jvm.Cond.code ({ cls := "java/lang/StringUTF16", name := "putChar", desc := "([BII)V" } : Jvm.MethodName) jdk_52_method_4_code (3 : Nat) (Option.none : Option Jvm.ClassFile.FieldType)).before args0 about1 = true := code_word (m := ⟨9, 3⟩) (meth := k9m3) (c := k9c3) (by decide +kernel) rfl rfl rfl (by decide +kernel)
set_option maxRecDepth 65536 in
theorem w_c22 : (Jvm.Cond.code ({ cls := "java/lang/StringUTF16", name := "getChar", desc := "([BI)C" } : Jvm.MethodName) jdk_52_method_5_code (2 : Nat) (Option.some Jvm.ClassFile.FieldType.char)).before args0 about1 = true := code_word (m := ⟨9, 4⟩) (meth := k9m4) (c := k9c4) (by decide +kernel) rfl rfl rfl (by decide +kernel)
set_option maxRecDepth 65536 in
theorem w_c23 : (Jvm.Cond.code ({ cls := "java/lang/StringUTF16", name := "charAt", desc := "([BI)C" } : Jvm.MethodName) jdk_52_method_83_code (2 : Nat) (Option.some Jvm.ClassFile.FieldType.char)).before args0 about1 = true := code_word (m := ⟨9, 10⟩) (meth := k9m10) (c := k9c10) (by decide +kernel) rfl rfl rfl (by decide +kernel)
set_option maxRecDepth 65536 in
theorem w_c24 : (Jvm.Cond.code ({ cls := "java/lang/StringUTF16", name := "checkIndex", desc := "(I[B)V" } : Jvm.MethodName) jdk_52_method_91_code (2 : Nat) (Option.none : Option Jvm.ClassFile.FieldType)).before args0 about1 = true := code_word (m := ⟨9, 11⟩) (meth := k9m11) (c := k9c11) (by decide +kernel) rfl rfl rfl (by decide +kernel)
set_option maxRecDepth 65536 in
theorem w_c25 : (Jvm.Cond.code ({ cls := "java/lang/StringUTF16", name := "length", desc := "([B)I" } : Jvm.MethodName) jdk_52_method_6_code (1 : Nat) (Option.some Jvm.ClassFile.FieldType.int)).before args0 about1 = true := code_word (m := ⟨9, 5⟩) (meth := k9m5) (c := k9c5) (by decide +kernel) rfl rfl rfl (by decide +kernel)
def codes1 : List Jvm.Cond := [Jvm.Cond.code x code maxLocals ret, Jvm.Cond.code ({ cls := "com/example/stowage/stowage/model/Names", name := "isName", desc := "(Ljava/lang/String;)Z" } : Jvm.MethodName) prog_7_method_2_code (1 : Nat) (Option.some Jvm.ClassFile.FieldType.boolean), Jvm.Cond.code ({ cls := "java/lang/String", name := "isEmpty", desc := "()Z" } : Jvm.MethodName) jdk_42_method_55_code (1 : Nat) (Option.some Jvm.ClassFile.FieldType.boolean), Jvm.Cond.code ({ cls := "java/lang/String", name := "<init>", desc := "([C)V" } : Jvm.MethodName) jdk_42_method_3_code (2 : Nat) (Option.none : Option Jvm.ClassFile.FieldType), Jvm.Cond.code ({ cls := "java/lang/String", name := "<init>", desc := "([CIILjava/lang/Void;)V" } : Jvm.MethodName) jdk_42_method_149_code (6 : Nat) (Option.none : Option Jvm.ClassFile.FieldType), Jvm.Cond.code ({ cls := "java/lang/Object", name := "<init>", desc := "()V" } : Jvm.MethodName) object_method_1_code (1 : Nat) (Option.none : Option Jvm.ClassFile.FieldType), Jvm.Cond.code ({ cls := "java/lang/StringUTF16", name := "compress", desc := "([CII)[B" } : Jvm.MethodName) jdk_52_method_16_code (6 : Nat) (Option.some (Jvm.ClassFile.FieldType.array Jvm.ClassFile.FieldType.byte)), Jvm.Cond.code ({ cls := "java/lang/StringUTF16", name := "compress", desc := "([CI[BII)I" } : Jvm.MethodName) jdk_52_method_21_code (7 : Nat) (Option.some Jvm.ClassFile.FieldType.int), Jvm.Cond.code ({ cls := "java/lang/StringUTF16", name := "coderFromArrayLen", desc := "([BI)B" } : Jvm.MethodName) jdk_52_method_15_code (2 : Nat) (Option.some Jvm.ClassFile.FieldType.byte), Jvm.Cond.code ({ cls := "com/example/stowage/stowage/model/NamesIsNamePinLaw", name := "ok", desc := "(C)Z" } : Jvm.MethodName) method_2_code (1 : Nat) (Option.some Jvm.ClassFile.FieldType.boolean), Jvm.Cond.code ({ cls := "java/lang/String", name := "length", desc := "()I" } : Jvm.MethodName) jdk_42_method_54_code (1 : Nat) (Option.some Jvm.ClassFile.FieldType.int), Jvm.Cond.code ({ cls := "java/lang/String", name := "coder", desc := "()B" } : Jvm.MethodName) jdk_42_method_152_code (1 : Nat) (Option.some Jvm.ClassFile.FieldType.byte), Jvm.Cond.code ({ cls := "com/example/stowage/stowage/model/Names", name := "madeOf", desc := "(Ljava/lang/String;Z)Z" } : Jvm.MethodName) prog_7_method_5_code (5 : Nat) (Option.some Jvm.ClassFile.FieldType.boolean), Jvm.Cond.code ({ cls := "java/lang/String", name := "charAt", desc := "(I)C" } : Jvm.MethodName) jdk_42_method_56_code (2 : Nat) (Option.some Jvm.ClassFile.FieldType.char), Jvm.Cond.code ({ cls := "java/lang/String", name := "isLatin1", desc := "()Z" } : Jvm.MethodName) jdk_42_method_154_code (1 : Nat) (Option.some Jvm.ClassFile.FieldType.boolean), Jvm.Cond.code ({ cls := "java/lang/StringLatin1", name := "charAt", desc := "([BI)C" } : Jvm.MethodName) jdk_43_method_2_code (2 : Nat) (Option.some Jvm.ClassFile.FieldType.char), Jvm.Cond.code ({ cls := "java/lang/String", name := "checkIndex", desc := "(II)V" } : Jvm.MethodName) jdk_42_method_155_code (2 : Nat) (Option.none : Option Jvm.ClassFile.FieldType), Jvm.Cond.code ({ cls := "jdk/internal/util/Preconditions", name := "checkIndex", desc := "(IILjava/util/function/BiFunction;)I" } : Jvm.MethodName) jdk_41_method_11_code (3 : Nat) (Option.some Jvm.ClassFile.FieldType.int), Jvm.Cond.code ({ cls := "java/lang/StringUTF16", name := "toBytes", desc := "([CII)[B" } : Jvm.MethodName) jdk_52_method_14_code (5 : Nat) (Option.some (Jvm.ClassFile.FieldType.array Jvm.ClassFile.FieldType.byte)), Jvm.Cond.code ({ cls := "java/lang/StringUTF16", name := "newBytesFor", desc := "(I)[B" } : Jvm.MethodName) jdk_52_method_2_code (1 : Nat) (Option.some (Jvm.ClassFile.FieldType.array Jvm.ClassFile.FieldType.byte)), Jvm.Cond.code ({ cls := "java/lang/StringUTF16", name := "newBytesLength", desc := "(I)I" } : Jvm.MethodName) jdk_52_method_3_code (1 : Nat) (Option.some Jvm.ClassFile.FieldType.int), Jvm.Cond.code ({ cls := "java/lang/StringUTF16", name := "putChar", desc := "([BII)V" } : Jvm.MethodName) jdk_52_method_4_code (3 : Nat) (Option.none : Option Jvm.ClassFile.FieldType), Jvm.Cond.code ({ cls := "java/lang/StringUTF16", name := "getChar", desc := "([BI)C" } : Jvm.MethodName) jdk_52_method_5_code (2 : Nat) (Option.some Jvm.ClassFile.FieldType.char), Jvm.Cond.code ({ cls := "java/lang/StringUTF16", name := "charAt", desc := "([BI)C" } : Jvm.MethodName) jdk_52_method_83_code (2 : Nat) (Option.some Jvm.ClassFile.FieldType.char), Jvm.Cond.code ({ cls := "java/lang/StringUTF16", name := "checkIndex", desc := "(I[B)V" } : Jvm.MethodName) jdk_52_method_91_code (2 : Nat) (Option.none : Option Jvm.ClassFile.FieldType), Jvm.Cond.code ({ cls := "java/lang/StringUTF16", name := "length", desc := "([B)I" } : Jvm.MethodName) jdk_52_method_6_code (1 : Nat) (Option.some Jvm.ClassFile.FieldType.int)]
set_option maxRecDepth 65536 in
theorem codes_eq : words1.filter isCode = codes1 := rfl
theorem w_codes : ∀ c ∈ words1.filter isCode, c.before args0 about1 = true := by
  rw [codes_eq]
  intro c hc
  simp only [codes1, List.mem_cons, List.not_mem_nil, or_false] at hc
  rcases hc with rfl | rfl | rfl | rfl | rfl | rfl | rfl | rfl | rfl | rfl | rfl | rfl | rfl | rfl | rfl | rfl | rfl | rfl | rfl | rfl | rfl | rfl | rfl | rfl | rfl | rfl
  · exact w_c0
  · exact w_c1
  · exact w_c2
  · exact w_c3
  · exact w_c4
  · exact w_c5
  · exact w_c6
  · exact w_c7
  · exact w_c8
  · exact w_c9
  · exact w_c10
  · exact w_c11
  · exact w_c12
  · exact w_c13
  · exact w_c14
  · exact w_c15
  · exact w_c16
  · exact w_c17
  · exact w_c18
  · exact w_c19
  · exact w_c20
  · exact w_c21
  · exact w_c22
  · exact w_c23
  · exact w_c24
  · exact w_c25
set_option maxRecDepth 65536 in
theorem w_t1 : (words1.take 24).all (fun c => isCode c || c.before args0 about1) = true := by decide +kernel
set_option maxRecDepth 65536 in
theorem w_t2 : ((words1.drop 24).take 24).all (fun c => isCode c || c.before args0 about1) = true := by decide +kernel
set_option maxRecDepth 65536 in
theorem w_t3 : (((words1.drop 24).drop 24).take 24).all (fun c => isCode c || c.before args0 about1) = true := by decide +kernel
set_option maxRecDepth 65536 in
theorem w_t4 : ((((words1.drop 24).drop 24).drop 24).take 24).all (fun c => isCode c || c.before args0 about1) = true := by decide +kernel
set_option maxRecDepth 65536 in
theorem w_t5 : ((((words1.drop 24).drop 24).drop 24).drop 24).all (fun c => isCode c || c.before args0 about1) = true := by decide +kernel
theorem w_tables : (allAtoms (Jvm.Cond.code x code maxLocals ret :: tables_1)).before args0 about1 = true := by
  rw [allAtoms_all]
  show words1.all (fun c => c.before args0 about1) = true
  refine all_split ?_ w_codes
  rw [← List.take_append_drop 24 words1, List.all_append, w_t1, ← List.take_append_drop 24 (words1.drop 24), List.all_append, w_t2, ← List.take_append_drop 24 ((words1.drop 24).drop 24), List.all_append, w_t3, ← List.take_append_drop 24 (((words1.drop 24).drop 24).drop 24), List.all_append, w_t4, w_t5]
  rfl
set_option maxRecDepth 65536 in
theorem w_rest : rest_1_c.before args0 about1 = true := by decide +kernel
set_option maxRecDepth 65536 in
theorem w_case : (Jvm.Cond.and given_1 narrow_1).before args0 about1 = true := by decide +kernel
set_option maxRecDepth 65536 in
theorem w_consts : constsHeld consts_1 about1 := Jvm.Lit.constsHeldB_iff.mp (by decide +kernel)
theorem w_applies : (headSpec (Jvm.Cond.code x code maxLocals ret :: tables_1) room_1).applies x e0.platform about1 = true :=
  (Spec.applies_iff w_frames).mpr ⟨w_running, w_runnable, w_alone, w_named, w_hears, w_ripe, w_room, w_tables⟩
theorem atStart : AtStart classFile x code maxLocals ret World_1 tables_1 room_1 Calls_1 rest_1 Pre_1 launch0 p0 e0 about1 theMethod args0 below0 :=
  ⟨lists_1, trivial, launch0.admits_env _ _ _, launch0.least_env, fairChoices_fair.cas, fairChoices_fair.clock, w_frames, w_args, w_heap, w_applies, ⟨w_consts, trivial⟩, w_rest, w_case⟩
end start1
theorem witness_1 : WitnessClaimed_1 := ⟨start1.p0, start1.e0, start1.about1, start1.theMethod, start1.args0, start1.below0, start1.atStart⟩
end Jvm.Pilot.@@N@@
