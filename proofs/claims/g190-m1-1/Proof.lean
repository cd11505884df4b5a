import JvmDerived
import JvmDerived.Pilot.@@N@@Statement
import JvmDerived.Pilot.@@N@@Code
set_option linter.unusedVariables false
set_option linter.unusedSimpArgs false
namespace Jvm.RoadKit
open Sem ClassFile Op Lib Jvm.Stand Jvm.Free Jvm.LawKit
section New
variable {p : Program} {l : Launch} {e : Env} {R : Room} {s : State} {m : MethodId} {args : Array Value} {below : List Frame} {meth : Method} {c : Code} {T : State} {locs : List Loc} {cells slots : Nat}
theorem retI (X : Stand p l e R s m args below meth c T locs cells slots) (hx : p.tables.exec = Jvm.exec) {pc : Nat} {Ls : Array Slot} {z : Int32} {rest : List Value} (hret : meth.sig.returnType = some .int) (hd : decode c.code pc = .ok (.ireturn, 1)) {fs : List Frame}
    (hl : ∀ (f : JFrame) (acts : List Action), f.method = m → f.locked = none → f.entered = [] → (doReturn e (T.setTop f) acts (some (.int z))).1 = T.setFrames fs) : Steps p.tables e below (T.setTop (mkF m pc Ls (.int z :: rest))) (T.setFrames fs) := by
  have hm' : T.vm.method? m = some meth := X.method'
  have hn : narrow .int (.int z) = .int z := rfl
  show Steps p.tables e below (T.setTop { method := m, pc := pc, locals := Ls, stack := _ :: rest, locked := none }) _
  jvm_step X.here [X.here.top, hx, hd, hm', hret, hn]
  first | (intro acts; rw [hl _ acts rfl rfl rfl]) | rw [hl _ _ rfl rfl rfl]
  exact Steps.refl _
end New
end Jvm.RoadKit
namespace Jvm.Pilot.@@N@@
open Jvm Jvm.ClassFile Sem Op Lib Jvm.Free Jvm.Stand Jvm.LawKit Jvm.RoadKit Bundle Jvm.Pilot.@@N@@.Jvm.D
section OwnKit
/-- the rest of a body ends well: from the state U on it comes to its end, what it returns and leaves is as Q says -/
def Done (p : Program) (e : Env) (below : List Frame) (s : State) (Q : Option Value → Heap → List Loc → Prop) (C S : Nat) (U : State) : Prop :=
  ∃ s₂ o, Steps p.tables e below U s₂ ∧ s₂.status = .running ∧ Ended s₂ below o ∧ ∃ v L, o = .returned v ∧ Q v s₂.heap L ∧ FrameEnd s o s₂ L C S
variable {p : Program} {l : Launch} {e : Env} {R : Room} {s : State} {m : MethodId} {args : Array Value} {below : List Frame} {meth : Method} {c : Code} {T U U' : State} {locs : List Loc} {cells slots C S : Nat} {Q : Option Value → Heap → List Loc → Prop}
theorem Done.step (h : ∀ t, Steps p.tables e below U' t → Steps p.tables e below U t) (d : Done p e below s Q C S U') : Done p e below s Q C S U := by
  obtain ⟨s₂, o, h1, r⟩ := d
  exact ⟨s₂, o, h _ h1, r⟩
theorem Done.far (h : Steps p.tables e below U U') (d : Done p e below s Q C S U') : Done p e below s Q C S U := by
  obtain ⟨s₂, o, h1, r⟩ := d
  exact ⟨s₂, o, h.trans h1, r⟩
theorem Done.mono {Q' : Option Value → Heap → List Loc → Prop} (d : Done p e below s Q C S U) (h : ∀ v h L, Q v h L → Q' v h L) : Done p e below s Q' C S U := by
  obtain ⟨s₂, o, h1, h2, h3, v, L, h4, h5, h6⟩ := d
  exact ⟨s₂, o, h1, h2, h3, v, L, h4, h _ _ _ h5, h6⟩
theorem Done.int (X : Stand p l e R s m args below meth c T locs cells slots) (hx : p.tables.exec = Jvm.exec) (hlk : meth.locks = false) (hret : meth.sig.returnType = some .int) {pc : Nat} {Ls : Array Slot} {z : Int32} {rest : List Value} (hd : decode c.code pc = .ok (.ireturn, 1)) (hc : cells ≤ C) (hs : slots ≤ S)
    (hq : Q (some (.int z)) T.heap locs) : Done p e below s Q C S (T.setTop (mkF m pc Ls (.int z :: rest))) := by
  obtain ⟨fs, hr, hrun, hended, hW, hsame⟩ := X.leave (v := some (.int z)) (fun h => by rw [hret] at h; cases h)
  exact ⟨_, _, retI X hx hret hd hr, hrun, hended, _, _, rfl, hq, ⟨_, rfl⟩, hW, hsame.mono hc hs⟩
theorem Done.narr (X : Stand p l e R s m args below meth c T locs cells slots) (hx : p.tables.exec = Jvm.exec) (hlk : meth.locks = false) {t : FieldType} (hret : meth.sig.returnType = some t) (ht : t = .boolean ∨ t = .byte ∨ t = .char ∨ t = .short) {pc : Nat} {Ls : Array Slot} {z : Int32} {rest : List Value} (hd : decode c.code pc = .ok (.ireturn, 1)) (hc : cells ≤ C) (hs : slots ≤ S)
    (hq : Q (some (.int (nar t z))) T.heap locs) : Done p e below s Q C S (T.setTop (mkF m pc Ls (.int z :: rest))) := by
  obtain ⟨fs, hr, hrun, hended, hW, hsame⟩ := X.leave (v := some (.int (nar t z))) (fun h => by rw [hret] at h; cases h)
  exact ⟨_, _, retN X hx hret ht hd hr, hrun, hended, _, _, rfl, hq, ⟨_, rfl⟩, hW, hsame.mono hc hs⟩
theorem Done.long (X : Stand p l e R s m args below meth c T locs cells slots) (hx : p.tables.exec = Jvm.exec) (hlk : meth.locks = false) (hret : meth.sig.returnType = some .long) {pc : Nat} {Ls : Array Slot} {z : Int64} {rest : List Value} (hd : decode c.code pc = .ok (.lreturn, 1)) (hc : cells ≤ C) (hs : slots ≤ S)
    (hq : Q (some (.long z)) T.heap locs) : Done p e below s Q C S (T.setTop (mkF m pc Ls (.long z :: rest))) := by
  obtain ⟨fs, hr, hrun, hended, hW, hsame⟩ := X.leave (v := some (.long z)) (fun h => by rw [hret] at h; cases h)
  exact ⟨_, _, retOut X hx hret rfl (Or.inr (Or.inl ⟨rfl, rfl, z, rfl⟩)) hd hr, hrun, hended, _, _, rfl, hq, ⟨_, rfl⟩, hW, hsame.mono hc hs⟩
theorem Done.ref (X : Stand p l e R s m args below meth c T locs cells slots) (hx : p.tables.exec = Jvm.exec) (hlk : meth.locks = false) {t : FieldType} (hret : meth.sig.returnType = some t) (ht : t.isReference = true) {pc : Nat} {Ls : Array Slot} {w : Value} {rest : List Value} (hw : w.isRef = true) (hn : narrow t w = w) (hd : decode c.code pc = .ok (.areturn, 1)) (hc : cells ≤ C) (hs : slots ≤ S)
    (hq : Q (some w) T.heap locs) : Done p e below s Q C S (T.setTop (mkF m pc Ls (w :: rest))) := by
  obtain ⟨fs, hr, hrun, hended, hW, hsame⟩ := X.leave (v := some w) (fun h => by rw [hret] at h; cases h)
  exact ⟨_, _, retOut X hx hret hn (Or.inr (Or.inr (Or.inr (Or.inr ⟨rfl, ht, hw⟩)))) hd hr, hrun, hended, _, _, rfl, hq, ⟨_, rfl⟩, hW, hsame.mono hc hs⟩
theorem Done.void (X : Stand p l e R s m args below meth c T locs cells slots) (hx : p.tables.exec = Jvm.exec) (hlk : meth.locks = false) (hret : meth.sig.returnType = none) {pc : Nat} {Ls : Array Slot} (hd : decode c.code pc = .ok (.return_, 1)) (hc : cells ≤ C) (hs : slots ≤ S)
    (hq : Q none T.heap locs) : Done p e below s Q C S (T.setTop (mkF m pc Ls [])) := by
  obtain ⟨fs, hr, hrun, hended, hW, hsame⟩ := X.leave (v := none) (fun _ => rfl)
  exact ⟨_, _, X.returnOut hx hret hd hr, hrun, hended, _, _, rfl, hq, ⟨_, rfl⟩, hW, hsame.mono hc hs⟩
variable {Z : State} {h h' h0 : Heap} {a b : Addr} {ty : FieldType} {vs : List Value} {sl : Nat} {v x : Value} {ws : List Addr} {j : Int32} {g : JFrame} {rest : List Value}
/-- an array whose slots are just the list vs -/
def Ax (Z : State) (h : Heap) (a : Addr) (ty : FieldType) (vs : List Value) : Prop := ∃ c : Cell, Arr Z h a c ty ∧ c.slots = vs.toArray
theorem Ax.lt (F : Ax Z h a ty vs) : a < h.size := by obtain ⟨c, A, -⟩ := F; exact A.lt
theorem Ax.ext (F : Ax Z h a ty vs) (E : Ext h h') : Ax Z h' a ty vs := by obtain ⟨c, A, r⟩ := F; exact ⟨c, A.ext E, r⟩
theorem Ax.other (F : Ax Z h b ty vs) (W : Wr h h' a sl v) (q : b ≠ a) : Ax Z h' b ty vs := by obtain ⟨c, A, r⟩ := F; exact ⟨c, A.other W q, r⟩
theorem Ax.keep (F : Ax Z h a ty vs) (K : Keep h h' ws) (q : a ∉ ws) : Ax Z h' a ty vs := by obtain ⟨c, A, r⟩ := F; exact ⟨c, ⟨K.2.1 a c A.1 q, A.2⟩, r⟩
theorem own_stakeep {C n d : String} (F : Sta Z h C n d v) (K : Keep h h' ws) (q : ∀ y ∈ ws, ∃ cell : Cell, h[y]? = some cell ∧ cell.vm.isStatics = false) : Sta Z h' C n d v := by
  obtain ⟨cf, i, k, f, st, cell, h1, h2, h3, h4, h5, h6, h7⟩ := F
  refine ⟨cf, i, k, f, st, cell, h1, h2, h3, h4, K.2.1 st cell h5 (fun z => ?_), h6, h7⟩
  obtain ⟨c', g1, g2⟩ := q st z
  cases h5.symm.trans g1; rw [g2] at h6; cases h6
theorem own_unst {C : String} (F : Exa Z h a C) : ∃ cell : Cell, h[a]? = some cell ∧ cell.vm.isStatics = false := by
  obtain ⟨cell, k, h1, -, -, h4, -⟩ := F; exact ⟨cell, h1, h4⟩
theorem fld_long {t : Term} {D n d : String} {k : Int64} {y : Addr} {av : Array Value} (hh : (Jvm.Cond.eq (Term.field t D n d) (Term.long k)).value av Z none Z [] = some true) (ht : t.eval av Z none [] Z = some (.ref y)) : Fld Z Z.heap y D n d (.long k) := by
  obtain ⟨u, w, e1, e2, k1, k2⟩ := cmp_v (Or.inl hh)
  have e3 : (Term.long k).eval av Z none [] Z = some (.long k) := rfl
  rw [e3] at e2; cases e2
  obtain ⟨z, rfl⟩ := k2
  have q := gotT (eq_L e1 e3) hh
  subst q
  rw [fld_at ht] at e1
  exact Fld.start e1
theorem fld_int {t : Term} {D n d : String} {k : Int32} {y : Addr} {av : Array Value} (hh : (Jvm.Cond.eq (Term.field t D n d) (Term.int k)).value av Z none Z [] = some true) (ht : t.eval av Z none [] Z = some (.ref y)) : Fld Z Z.heap y D n d (.int k) := by
  obtain ⟨u, w, e1, e2, k1, k2⟩ := cmp_v (Or.inl hh)
  have e3 : (Term.int k).eval av Z none [] Z = some (.int k) := rfl
  rw [e3] at e2; cases e2
  obtain ⟨z, rfl⟩ := k2
  have q : z = k := by simpa [Jvm.Cond.value, e1, e3] using hh
  subst q
  rw [fld_at ht] at e1
  exact Fld.start e1
theorem Ax.set (F : Ax Z h a ty vs) (W : Wr h h' a sl v) : Ax Z h' a ty (vs.set sl v) := by
  obtain ⟨c, A, r⟩ := F
  exact ⟨_, A.same W, by rw [show (c.setSlot sl v).slots = c.slots.setIfInBounds sl v from rfl, r, List.setIfInBounds_toArray]⟩
theorem Ax.new {k : ClassId} {n : Int32} {i : Nat} (A : Arr Z h a (newA k ty n) ty) (hi : n.toNatClampNeg = i) : Ax Z h a ty (List.replicate i (defaultValue ty)) :=
  ⟨_, A, by rw [show (newA k ty n).slots = Array.replicate n.toNatClampNeg (defaultValue ty) from rfl, hi, List.toArray_replicate]⟩
theorem Ax.size {c : Cell} (r : c.slots = vs.toArray) : c.slots.size = vs.length := by rw [r, List.size_toArray]
theorem Ax.inb {c : Cell} (r : c.slots = vs.toArray) (hj : ¬ j < 0) (hl : j.toNatClampNeg < vs.length) : ¬ (j < 0 ∨ c.slots.size ≤ j.toNatClampNeg) := fun q => q.elim hj fun u => by
  rw [Ax.size r] at u; exact absurd hl (Nat.not_lt.mpr u)
theorem Ax.get {c : Cell} (r : c.slots = vs.toArray) (hat : vs[j.toNatClampNeg]? = some x) : c.slots[j.toNatClampNeg]? = some x := by rw [r, List.getElem?_toArray]; exact hat
theorem Ax.lens (hat : vs[j.toNatClampNeg]? = some x) : j.toNatClampNeg < vs.length := (List.getElem?_eq_some_iff.mp hat).1
theorem ldI (X : Stand p l e R s m args below meth c T locs cells slots) (hx : p.tables.exec = Jvm.exec) (hZ : Z.Warmed39 s.vm) (eT : T.heap = h) (F : Ax Z h a .int vs) (hj : ¬ j < 0) (hat : vs[j.toNatClampNeg]? = some x) (hg : g.method = m) (hs : g.stack = .int j :: .ref a :: rest) (hd : decode c.code g.pc = .ok (.iaload, 1)) :
    ∀ target, Steps p.tables e below (T.setTop { g with pc := g.pc + 1, stack := x :: rest }) target → Steps p.tables e below (T.setTop g) target := by
  obtain ⟨cl, A, r⟩ := F
  exact X.iaload hx (by rw [eT]; exact A.1) (State.isArrayOf_alike hZ.alike A.2.1) A.2.2 (Ax.inb r hj (Ax.lens hat)) (Ax.get r hat) hg hs hd
theorem ldJ (X : Stand p l e R s m args below meth c T locs cells slots) (hx : p.tables.exec = Jvm.exec) (hZ : Z.Warmed39 s.vm) (eT : T.heap = h) (F : Ax Z h a .long vs) (hj : ¬ j < 0) (hat : vs[j.toNatClampNeg]? = some x) (hg : g.method = m) (hs : g.stack = .int j :: .ref a :: rest) (hd : decode c.code g.pc = .ok (.laload, 1)) :
    ∀ target, Steps p.tables e below (T.setTop { g with pc := g.pc + 1, stack := x :: rest }) target → Steps p.tables e below (T.setTop g) target := by
  obtain ⟨cl, A, r⟩ := F
  exact X.laload hx (by rw [eT]; exact A.1) (State.isArrayOf_alike hZ.alike A.2.1) A.2.2 (Ax.inb r hj (Ax.lens hat)) (Ax.get r hat) hg hs hd
theorem ldB (X : Stand p l e R s m args below meth c T locs cells slots) (hx : p.tables.exec = Jvm.exec) (hZ : Z.Warmed39 s.vm) (eT : T.heap = h) (F : Ax Z h a .byte vs) (hj : ¬ j < 0) (hat : vs[j.toNatClampNeg]? = some x) (hg : g.method = m) (hs : g.stack = .int j :: .ref a :: rest) (hd : decode c.code g.pc = .ok (.baload, 1)) :
    ∀ target, Steps p.tables e below (T.setTop { g with pc := g.pc + 1, stack := x :: rest }) target → Steps p.tables e below (T.setTop g) target := by
  obtain ⟨cl, A, r⟩ := F
  exact X.baloadBytes hx (by rw [eT]; exact A.1) (State.isArrayOf_alike hZ.alike A.2.1) A.2.2 (Ax.inb r hj (Ax.lens hat)) (Ax.get r hat) hg hs hd
theorem ldZ (X : Stand p l e R s m args below meth c T locs cells slots) (hx : p.tables.exec = Jvm.exec) (hZ : Z.Warmed39 s.vm) (eT : T.heap = h) (F : Ax Z h a .boolean vs) (hj : ¬ j < 0) (hat : vs[j.toNatClampNeg]? = some x) (hg : g.method = m) (hs : g.stack = .int j :: .ref a :: rest) (hd : decode c.code g.pc = .ok (.baload, 1)) :
    ∀ target, Steps p.tables e below (T.setTop { g with pc := g.pc + 1, stack := x :: rest }) target → Steps p.tables e below (T.setTop g) target := by
  obtain ⟨cl, A, r⟩ := F
  exact X.baloadBooleans hx (by rw [eT]; exact A.1) (State.isArrayOf_alike hZ.alike A.2.1) A.2.2 (Ax.inb r hj (Ax.lens hat)) (Ax.get r hat) hg hs hd
theorem lenA (X : Stand p l e R s m args below meth c T locs cells slots) (hx : p.tables.exec = Jvm.exec) (hZ : Z.Warmed39 s.vm) (eT : T.heap = h) (F : Ax Z h a ty vs) {n : Int32} (hn : vs.length.toInt32 = n) (hg : g.method = m) (hs : g.stack = .ref a :: rest) (hd : decode c.code g.pc = .ok (.arraylength, 1)) :
    ∀ target, Steps p.tables e below (T.setTop { g with pc := g.pc + 1, stack := .int n :: rest }) target → Steps p.tables e below (T.setTop g) target := by
  obtain ⟨cl, A, r⟩ := F
  intro target k
  refine X.arraylength hx (by rw [eT]; exact A.1) (State.isArrayOf_alike hZ.alike A.2.1) hg hs hd target ?_
  rw [Ax.size r, hn]; exact k
theorem stoI (X : Stand p l e R s m args below meth c T locs cells slots) (hx : p.tables.exec = Jvm.exec) (hZ : Z.Warmed39 s.vm) (eT : T.heap = h) (F : Ax Z h a .int vs) {y : Int32} (hj : ¬ j < 0) {i : Nat} (hi : j.toNatClampNeg = i) (hl : i < vs.length) (hg : g.method = m) (hs : g.stack = .int y :: .int j :: .ref a :: rest) (hd : decode c.code g.pc = .ok (.iastore, 1)) :
    ∃ T' h', Stand p l e R s m args below meth c T' (locs ++ [⟨a, j.toNatClampNeg⟩]) cells slots ∧ T'.heap = h' ∧ Wr h h' a j.toNatClampNeg (.int y) ∧ Ax Z h' a .int (vs.set i (.int y)) ∧ ∀ target, Steps p.tables e below (T'.setTop { g with pc := g.pc + 1, stack := rest }) target → Steps p.tables e below (T.setTop g) target := by
  obtain ⟨cl, A, r⟩ := F
  obtain ⟨T', h', X', e', W, st⟩ := stI X hx hZ eT A (Ax.inb r hj (by rw [hi]; exact hl)) hg hs hd
  exact ⟨T', h', X', e', W, hi ▸ Ax.set ⟨cl, A, r⟩ W, st⟩
theorem stoJ (X : Stand p l e R s m args below meth c T locs cells slots) (hx : p.tables.exec = Jvm.exec) (hZ : Z.Warmed39 s.vm) (eT : T.heap = h) (F : Ax Z h a .long vs) {y : Int64} (hj : ¬ j < 0) {i : Nat} (hi : j.toNatClampNeg = i) (hl : i < vs.length) (hg : g.method = m) (hs : g.stack = .long y :: .int j :: .ref a :: rest) (hd : decode c.code g.pc = .ok (.lastore, 1)) :
    ∃ T' h', Stand p l e R s m args below meth c T' (locs ++ [⟨a, j.toNatClampNeg⟩]) cells slots ∧ T'.heap = h' ∧ Wr h h' a j.toNatClampNeg (.long y) ∧ Ax Z h' a .long (vs.set i (.long y)) ∧ ∀ target, Steps p.tables e below (T'.setTop { g with pc := g.pc + 1, stack := rest }) target → Steps p.tables e below (T.setTop g) target := by
  obtain ⟨cl, A, r⟩ := F
  obtain ⟨T', h', X', e', W, st⟩ := stJ X hx hZ eT A (Ax.inb r hj (by rw [hi]; exact hl)) hg hs hd
  exact ⟨T', h', X', e', W, hi ▸ Ax.set ⟨cl, A, r⟩ W, st⟩
theorem stoB (X : Stand p l e R s m args below meth c T locs cells slots) (hx : p.tables.exec = Jvm.exec) (hZ : Z.Warmed39 s.vm) (eT : T.heap = h) (F : Ax Z h a .byte vs) {y : Int32} (hj : ¬ j < 0) {i : Nat} (hi : j.toNatClampNeg = i) (hl : i < vs.length) (hg : g.method = m) (hs : g.stack = .int y :: .int j :: .ref a :: rest) (hd : decode c.code g.pc = .ok (.bastore, 1)) :
    ∃ T' h', Stand p l e R s m args below meth c T' (locs ++ [⟨a, j.toNatClampNeg⟩]) cells slots ∧ T'.heap = h' ∧ Wr h h' a j.toNatClampNeg (.int (nar .byte y)) ∧ Ax Z h' a .byte (vs.set i (.int (nar .byte y))) ∧ ∀ target, Steps p.tables e below (T'.setTop { g with pc := g.pc + 1, stack := rest }) target → Steps p.tables e below (T.setTop g) target := by
  obtain ⟨cl, A, r⟩ := F
  obtain ⟨T', h', X', e', W, st⟩ := stB X hx hZ eT A (Ax.inb r hj (by rw [hi]; exact hl)) hg hs hd
  exact ⟨T', h', X', e', W, hi ▸ Ax.set ⟨cl, A, r⟩ W, st⟩
theorem stoZ (X : Stand p l e R s m args below meth c T locs cells slots) (hx : p.tables.exec = Jvm.exec) (hZ : Z.Warmed39 s.vm) (eT : T.heap = h) (F : Ax Z h a .boolean vs) {y : Int32} (hj : ¬ j < 0) {i : Nat} (hi : j.toNatClampNeg = i) (hl : i < vs.length) (hg : g.method = m) (hs : g.stack = .int y :: .int j :: .ref a :: rest) (hd : decode c.code g.pc = .ok (.bastore, 1)) :
    ∃ T' h', Stand p l e R s m args below meth c T' (locs ++ [⟨a, j.toNatClampNeg⟩]) cells slots ∧ T'.heap = h' ∧ Wr h h' a j.toNatClampNeg (.int (nar .boolean y)) ∧ Ax Z h' a .boolean (vs.set i (.int (nar .boolean y))) ∧ ∀ target, Steps p.tables e below (T'.setTop { g with pc := g.pc + 1, stack := rest }) target → Steps p.tables e below (T.setTop g) target := by
  obtain ⟨cl, A, r⟩ := F
  obtain ⟨T', h', X', e', W, st⟩ := stZ X hx hZ eT A (Ax.inb r hj (by rw [hi]; exact hl)) hg hs hd
  exact ⟨T', h', X', e', W, hi ▸ Ax.set ⟨cl, A, r⟩ W, st⟩
theorem cloX (X : Stand p l e R s m args below meth c T locs cells slots) (hx : p.tables.exec = Jvm.exec) (hZ : Z.Warmed39 s.vm) {a0 : Array Value} {own ad : String} {index : Nat} (hown : s.vm.findClass own = some m.cls)
    (w1 : (Cond.methodLink own index ⟨ad, "clone", "()Ljava/lang/Object;"⟩).before a0 Z = true) (w2 : (Cond.sameMethod ad "java/lang/Object" "clone" "()Ljava/lang/Object;").before a0 Z = true) (w3 : (Cond.native ⟨"java/lang/Object", "clone", "()Ljava/lang/Object;"⟩).before a0 Z = true)
    (w4 : (Cond.instanceMethod ⟨"java/lang/Object", "clone", "()Ljava/lang/Object;"⟩).before a0 Z = true) (w5 : (Cond.selects ad ⟨ad, "clone", "()Ljava/lang/Object;"⟩ ⟨"java/lang/Object", "clone", "()Ljava/lang/Object;"⟩).before a0 Z = true) (w6 : (Cond.castable ad "java/lang/Cloneable").before a0 Z = true)
    (eT : T.heap = h) (F : Ax Z h a ty vs) (E : Exa Z h a ad) (G : ∀ v ∈ vs, fits ty v = true) (hg : g.method = m) (hsize : g.locals.size = c.maxLocals) (hs : g.stack = .ref a :: rest) (hd : decode c.code g.pc = .ok (.invokevirtual index, 3))
    (hf : 1 ≤ R.frames) {W cap : Nat} (hW : 2 * g.monitorRoom + (rest.map fun v => v.category).sum ≤ W) (hl : W + 14 ≤ R.locals) (hcap : vs.length ≤ cap) (hc : cells + 1 ≤ R.cells) (hsl : slots + cap ≤ R.slots) :
    ∃ T' h', Stand p l e R s m args below meth c T' locs (cells + 1) (slots + cap) ∧ T'.heap = h' ∧ Ext h h' ∧ Ax Z h' h.size ty vs ∧ Exa Z h' h.size ad ∧
      ∀ target, Steps p.tables e below (T'.setTop { g with pc := g.pc + 3, stack := .ref h.size :: rest }) target → Steps p.tables e below (T.setTop g) target := by
  obtain ⟨cl, A, r⟩ := F
  have FC : FitC Z cl := fitC_of A fun i hi v hv => by
    rw [r, List.getElem?_toArray] at hv
    exact G v (List.mem_of_getElem? hv)
  obtain ⟨T', h', X', e', ex, A', E', st⟩ := cloneA X hx hZ hown w1 w2 w3 w4 w5 w6 eT A E FC hg hsize hs hd hf hW hl (by rw [Ax.size r]; exact hcap) hc hsl
  exact ⟨T', h', X', e', ex, ⟨cloneOf cl, A', r⟩, E', st⟩
end OwnKit
theorem pd_0 : parseMethodDescriptor "(I)I" = some ⟨[.int], some .int⟩ := by decide +kernel
theorem pd_1 : parseMethodDescriptor "(II[I[I[I)V" = some ⟨[.int, .int, (.array .int), (.array .int), (.array .int)], none⟩ := by decide +kernel
theorem pd_2 : parseMethodDescriptor "()J" = some ⟨[], some .long⟩ := by decide +kernel
theorem own_dupx2 {tb : Tables} [Ours tb] {e : Env} {below : List Frame} {T target : State} {m : MethodId} {c : Code} {g : JFrame} (h : At T m c below) (hx : tb.exec = Jvm.exec) (hg : g.method = m) {x y : Int32} {r : Addr} {rest : List Value} (hd : decode c.code g.pc = .ok (.dup_x2, 1)) (hs : g.stack = .int x :: .int y :: .ref r :: rest)
    (hr : Steps tb e below (T.setTop { g with pc := g.pc + 1, stack := .int x :: .int y :: .ref r :: .int x :: rest }) target) : Steps tb e below (T.setTop g) target := by
  subst hg
  jvm_step h [h.top, hx, hd, hs, Value.category]
  exact hr
def fv (F : List Int32) (i : Nat) : Int := (F[i]?.getD 0).toInt
def cE (f s : Nat → Int) : Nat → Int → Int
  | 0, _ => 0
  | n + 1, x => cE f s n x + (if f (n + 1) = x then 1 else 0) + (if s (n + 1) = x then 1 else 0)
def cL (f s : Nat → Int) : Nat → Int → Int
  | 0, _ => 0
  | n + 1, x => cL f s n x + (if f (n + 1) ≤ x then 1 else 0) + (if s (n + 1) ≤ x then 1 else 0)
theorem cE_succ (f s : Nat → Int) (n : Nat) (x : Int) : cE f s (n + 1) x = cE f s n x + (if f (n + 1) = x then 1 else 0) + (if s (n + 1) = x then 1 else 0) := rfl
theorem cL_succ (f s : Nat → Int) (n : Nat) (x : Int) : cL f s (n + 1) x = cL f s n x + (if f (n + 1) ≤ x then 1 else 0) + (if s (n + 1) ≤ x then 1 else 0) := rfl
theorem cE_rng (f s : Nat → Int) (n : Nat) (x : Int) : 0 ≤ cE f s n x ∧ cE f s n x ≤ 2 * n := by
  induction n with
  | zero => exact ⟨Int.le_refl _, Int.le_refl _⟩
  | succ n ih => rw [cE_succ]; split <;> split <;> omega
theorem cL_rng (f s : Nat → Int) (n : Nat) (x : Int) : 0 ≤ cL f s n x ∧ cL f s n x ≤ 2 * n := by
  induction n with
  | zero => exact ⟨Int.le_refl _, Int.le_refl _⟩
  | succ n ih => rw [cL_succ]; split <;> split <;> omega
theorem cL_step (f s : Nat → Int) (n : Nat) (x : Int) : cL f s n x = cL f s n (x - 1) + cE f s n x := by
  induction n with
  | zero => rfl
  | succ n ih => rw [cL_succ, cL_succ, cE_succ, ih]; repeat' split <;> omega
theorem cE_mono (f s : Nat → Int) (i n : Nat) (x : Int) (h : i ≤ n) : cE f s i x ≤ cE f s n x := by
  induction n with
  | zero => rw [Nat.le_zero.mp h]; exact Int.le_refl _
  | succ n ih =>
    by_cases q : i = n + 1
    · rw [q]; exact Int.le_refl _
    · have := ih (by omega); rw [cE_succ]; split <;> split <;> omega
theorem cL_zero (f s : Nat → Int) (n : Nat) (v : Int) (hf : ∀ i, 1 ≤ i → i ≤ n → 1 ≤ f i ∧ f i ≤ v) (hs : ∀ i, 1 ≤ i → i ≤ n → 1 ≤ s i ∧ s i ≤ v) : cL f s n 0 = 0 := by
  induction n with
  | zero => rfl
  | succ n ih =>
    have a := hf (n + 1) (by omega) (by omega)
    have b := hs (n + 1) (by omega) (by omega)
    rw [cL_succ, ih (fun i h1 h2 => hf i h1 (by omega)) (fun i h1 h2 => hs i h1 (by omega)), if_neg (by omega), if_neg (by omega)]; rfl
def SV (ss : List Int32) (g : Int → Int) : Prop := ∀ (j : Nat) (y : Int32), ss[j]? = some y → 1 ≤ j → y.toInt = g j
theorem SV.set {ss : List Int32} {g : Int → Int} (H : SV ss g) {k : Nat} {x : Int} (hk : (k : Int) = x) {z : Int32} {d : Int} (hz : z.toInt = d) {ss' : List Int32} (e : ss' = ss.set k z) : SV ss' (fun j => if j = x then d else g j) := by
  subst e
  intro j y hy hj
  rw [List.getElem?_set] at hy
  by_cases q : k = j
  · subst q
    rw [if_pos rfl] at hy
    split at hy
    · cases hy; simp [hk, hz]
    · cases hy
  · rw [if_neg q] at hy
    have := H j y hy hj
    show y.toInt = if (j : Int) = x then d else g j
    rw [if_neg (by omega)]; exact this
theorem SV.same {ss : List Int32} {g g' : Int → Int} (H : SV ss g) (q : ∀ j : Int, 1 ≤ j → g j = g' j) : SV ss g' := fun j y hy hj => by rw [← q j (by omega)]; exact H j y hy hj
theorem own_len {ss ss' : List Int32} {k : Nat} {z : Int32} {n : Nat} (h : ss.length = n) (e : ss' = ss.set k z) : ss'.length = n := by rw [e, List.length_set, h]
theorem own_fv {F : List Int32} {k : Nat} {x : Int32} (h : F[k]? = some x) : fv F k = x.toInt := by unfold fv; rw [h]; rfl
theorem own_clamp {x : Int32} (h : 0 ≤ x.toInt) : (x.toNatClampNeg : Int) = x.toInt := by rw [Int32.toNatClampNeg]; omega
theorem own_nneg {x : Int32} (h : 0 ≤ x.toInt) : ¬ x < 0 := by rw [Int32.lt_iff_toInt_lt]; show ¬ _ < (0 : Int); omega
theorem own_plus {x y : Int32} {d : Int} (hd : y.toInt = d) (h1 : -2147483648 ≤ x.toInt + d) (h2 : x.toInt + d < 2147483648) : (x + y).toInt = x.toInt + d := by
  have a := c_iadd x y; have r := rng32 (x + y); omega
theorem own_minus {x y : Int32} {d : Int} (hd : y.toInt = d) (h1 : -2147483648 ≤ x.toInt - d) (h2 : x.toInt - d < 2147483648) : (x - y).toInt = x.toInt - d := by
  have a := c_isub x y; have r := rng32 (x - y); omega
theorem own_one : (1 : Int32).toInt = 1 := rfl
theorem own_get {xs : List Int32} {k : Nat} (h : k < xs.length) : ∃ x, xs[k]? = some x := ⟨_, List.getElem?_eq_getElem h⟩
theorem own_idx {x : Int32} {n m : Nat} (h : x.toInt = (n : Int)) (hl : n < m) : 0 ≤ x.toInt ∧ x.toNatClampNeg = n ∧ x.toNatClampNeg < m := by
  have : x.toNatClampNeg = n := by rw [Int32.toNatClampNeg]; omega
  exact ⟨by omega, this, by omega⟩
theorem own_in {x : Int32} {vv m : Nat} (h : 1 ≤ x.toInt ∧ x.toInt ≤ (vv : Int) + 1) (hl : m = vv + 2) : 0 ≤ x.toInt ∧ x.toNatClampNeg < m ∧ (x.toNatClampNeg : Int) = x.toInt ∧ 1 ≤ x.toNatClampNeg := by
  have := own_clamp (x := x) (by omega)
  omega
theorem own_in0 {x : Int32} {k m : Nat} (h0 : 0 ≤ x.toInt) (h : x.toInt < (k : Int)) (hl : m = k) : x.toNatClampNeg < m ∧ (x.toNatClampNeg : Int) = x.toInt := by
  have := own_clamp h0
  omega
theorem SV.at {ss : List Int32} {g : Int → Int} (H : SV ss g) {x y : Int32} (h : ss[x.toNatClampNeg]? = some y) (h1 : 1 ≤ x.toNatClampNeg) (hc : (x.toNatClampNeg : Int) = x.toInt) : y.toInt = g x.toInt := by rw [← hc]; exact H _ _ h h1
theorem own_m1 {x : Int32} {b : Int} (h : 1 ≤ x.toInt ∧ x.toInt ≤ b) : (x - (1 : Int32)).toInt = x.toInt - 1 ∧ 0 ≤ (x - (1 : Int32)).toInt ∧ (x - (1 : Int32)).toInt < b := by
  have r := rng32 x
  have := own_minus (x := x) own_one (by omega) (by omega)
  omega
theorem own_p1 {x : Int32} {b : Int} (h : 0 ≤ x.toInt ∧ x.toInt ≤ b) (hb : b < 2147483647) : (x + (1 : Int32)).toInt = x.toInt + 1 := own_plus own_one (by omega) (by omega)
theorem own_dec {x : Int32} {n : Nat} (h : x.toInt = ((n + 1 : Nat) : Int)) : (x + (-1 : Int32)).toInt = (n : Int) := by
  have r := rng32 x
  rw [own_plus (d := -1) rfl (by omega) (by omega)]; omega
theorem own_inc {x : Int32} {n : Int} (h : x.toInt = n) (hb : n < 2147483647) : (x + (1 : Int32)).toInt = n + 1 := by
  have r := rng32 x
  rw [own_plus own_one (by omega) (by omega)]; omega
theorem own_cast (tt : Nat) : (tt : Int) = ((tt + 1 : Nat) : Int) - 1 := by omega
theorem net_a {f s : Nat → Int} {nn jj : Nat} {y g : Int} (hj : jj + 1 ≤ nn) (hs : s (jj + 1) = y) (hg : g = cL f s nn (y - 1) + cE f s (jj + 1) y) : 1 ≤ g ∧ g ≤ ((2 * nn : Nat) : Int) := by
  have k1 := cE_succ f s jj y
  rw [if_pos hs] at k1
  have k2 := cE_mono f s (jj + 1) nn y hj
  have k3 := cL_step f s nn y
  have k4 := cL_rng f s nn y
  have k5 := cL_rng f s nn (y - 1)
  have k6 := cE_rng f s jj y
  have k7 : 0 ≤ (if f (jj + 1) = y then (1 : Int) else 0) := by split <;> decide
  generalize (if f (jj + 1) = y then (1 : Int) else 0) = q at *
  omega
theorem net_b {f s : Nat → Int} {nn jj : Nat} {x y gx gy : Int} (hj : jj + 1 ≤ nn) (hf : f (jj + 1) = x) (hs : s (jj + 1) = y) (hgy : gy = cL f s nn (y - 1) + cE f s (jj + 1) y) (hgx : gx = if x = y then gy - 1 else cL f s nn (x - 1) + cE f s (jj + 1) x) : gx = cL f s nn (x - 1) + cE f s jj x + 1 ∧ 1 ≤ gx ∧ gx ≤ ((2 * nn : Nat) : Int) := by
  have e : gx = cL f s nn (x - 1) + cE f s jj x + 1 := by
    have k1 := cE_succ f s jj x
    rw [if_pos hf] at k1
    by_cases q : x = y
    · rw [if_pos q] at hgx
      rw [if_pos (hs.trans q.symm)] at k1
      rw [hgx, hgy, ← q]; omega
    · rw [if_neg q] at hgx
      rw [if_neg (fun u => q (u.symm.trans hs))] at k1
      rw [hgx, k1]; omega
  have k1 := cE_succ f s jj x
  rw [if_pos hf] at k1
  have k2 := cE_mono f s (jj + 1) nn x hj
  have k3 := cL_step f s nn x
  have k4 := cL_rng f s nn x
  have k5 := cL_rng f s nn (x - 1)
  have k6 := cE_rng f s jj x
  have k7 : 0 ≤ (if s (jj + 1) = x then (1 : Int) else 0) := by split <;> decide
  generalize (if s (jj + 1) = x then (1 : Int) else 0) = q at *
  omega
theorem net_c {f s : Nat → Int} {nn jj : Nat} {x y gx gy : Int} (hf : f (jj + 1) = x) (hs : s (jj + 1) = y) (hgy : gy = cL f s nn (y - 1) + cE f s (jj + 1) y) (hgx : gx = cL f s nn (x - 1) + cE f s jj x + 1) (j : Int) : (if j = x then gx - 1 else if j = y then gy - 1 else cL f s nn (j - 1) + cE f s (jj + 1) j) = cL f s nn (j - 1) + cE f s jj j := by
  have k1 := cE_succ f s jj j
  by_cases q1 : j = x
  · rw [if_pos q1, q1]; omega
  · rw [if_neg q1]
    rw [if_neg (fun u => q1 (u.symm.trans hf))] at k1
    by_cases q2 : j = y
    · rw [if_pos q2]
      rw [if_pos (hs.trans q2.symm)] at k1
      rw [hgy, ← q2, k1]; omega
    · rw [if_neg q2]
      rw [if_neg (fun u => q2 (u.symm.trans hs))] at k1
      rw [k1]; omega
theorem net_d {f s : Nat → Int} {ii : Nat} {x y gx gy : Int} (hf : f (ii + 1) = x) (hs : s (ii + 1) = y) (hgx : gx = cE f s ii x) (hgy : gy = if y = x then gx + 1 else cE f s ii y) (j : Int) : (if j = y then gy + 1 else if j = x then gx + 1 else cE f s ii j) = cE f s (ii + 1) j := by
  have k1 := cE_succ f s ii j
  by_cases q1 : j = y
  · rw [if_pos q1]
    rw [if_pos (hs.trans q1.symm)] at k1
    by_cases q2 : y = x
    · rw [if_pos q2] at hgy
      rw [if_pos (hf.trans (q2.symm.trans q1.symm))] at k1
      rw [k1, hgy, hgx, q1, q2]
    · rw [if_neg q2] at hgy
      rw [if_neg (fun u : f (ii + 1) = j => q2 (q1.symm.trans (u.symm.trans hf)))] at k1
      rw [k1, hgy, q1]; omega
  · rw [if_neg q1]
    rw [if_neg (fun u : s (ii + 1) = j => q1 (u.symm.trans hs))] at k1
    by_cases q2 : j = x
    · rw [if_pos q2]
      rw [if_pos (hf.trans q2.symm)] at k1
      rw [k1, hgx, q2]; omega
    · rw [if_neg q2]
      rw [if_neg (fun u : f (ii + 1) = j => q2 (u.symm.trans hf))] at k1
      rw [k1]; omega
theorem net_e {f s : Nat → Int} {ii nn : Nat} {x y gx gy : Int} (hi : ii ≤ nn) (hgx : gx = cE f s ii x) (hgy : gy = if y = x then gx + 1 else cE f s ii y) : 0 ≤ gy ∧ gy ≤ 2 * (nn : Int) + 1 := by
  have k1 := cE_rng f s ii x
  have k2 := cE_rng f s ii y
  rw [hgy]
  split <;> omega
theorem net_f {f s : Nat → Int} {nn : Nat} (tt : Nat) (j : Int) : (if j = (tt : Int) then cL f s nn (tt : Int) else if j < (tt : Int) then cL f s nn j else cE f s nn j) = if j < ((tt + 1 : Nat) : Int) then cL f s nn j else cE f s nn j := by
  by_cases q : j = (tt : Int)
  · rw [if_pos q, if_pos (by omega), q]
  · rw [if_neg q]
    by_cases q2 : j < (tt : Int)
    · rw [if_pos q2, if_pos (by omega)]
    · rw [if_neg q2, if_neg (by omega)]
theorem net_g {f s : Nat → Int} {nn tt : Nat} {a b : Int32} (ha : a.toInt = cL f s nn ((tt : Int) - 1)) (hb : b.toInt = cE f s nn (tt : Int)) (hn : nn ≤ 100) : (a + b).toInt = cL f s nn (tt : Int) := by
  have k1 := cE_rng f s nn (tt : Int)
  have k2 := cL_rng f s nn ((tt : Int) - 1)
  have k3 := cL_step f s nn (tt : Int)
  rw [own_plus (d := b.toInt) rfl (by omega) (by omega)]; omega
theorem d2_135 : decode prog_20_method_1_code 135 = .ok (.iload 7, 2) := by decide +kernel
theorem d2_137 : decode prog_20_method_1_code 137 = .ok (.iconst 1, 1) := by decide +kernel
theorem d2_138 : decode prog_20_method_1_code 138 = .ok (.if_icmp .lt 52, 3) := by decide +kernel
theorem d2_141 : decode prog_20_method_1_code 141 = .ok (.aload_n 0, 1) := by decide +kernel
theorem d2_142 : decode prog_20_method_1_code 142 = .ok (.getfield 29, 3) := by decide +kernel
theorem d2_145 : decode prog_20_method_1_code 145 = .ok (.aload_n 0, 1) := by decide +kernel
theorem d2_146 : decode prog_20_method_1_code 146 = .ok (.getfield 26, 3) := by decide +kernel
theorem d2_149 : decode prog_20_method_1_code 149 = .ok (.aload 4, 2) := by decide +kernel
theorem d2_151 : decode prog_20_method_1_code 151 = .ok (.iload 7, 2) := by decide +kernel
theorem d2_153 : decode prog_20_method_1_code 153 = .ok (.iaload, 1) := by decide +kernel
theorem d2_154 : decode prog_20_method_1_code 154 = .ok (.dup2, 1) := by decide +kernel
theorem d2_155 : decode prog_20_method_1_code 155 = .ok (.iaload, 1) := by decide +kernel
theorem d2_156 : decode prog_20_method_1_code 156 = .ok (.iconst 1, 1) := by decide +kernel
theorem d2_157 : decode prog_20_method_1_code 157 = .ok (.isub, 1) := by decide +kernel
theorem d2_158 : decode prog_20_method_1_code 158 = .ok (.dup_x2, 1) := by decide +kernel
theorem d2_159 : decode prog_20_method_1_code 159 = .ok (.iastore, 1) := by decide +kernel
theorem d2_160 : decode prog_20_method_1_code 160 = .ok (.iload 7, 2) := by decide +kernel
theorem d2_162 : decode prog_20_method_1_code 162 = .ok (.iastore, 1) := by decide +kernel
theorem d2_163 : decode prog_20_method_1_code 163 = .ok (.aload_n 0, 1) := by decide +kernel
theorem d2_164 : decode prog_20_method_1_code 164 = .ok (.getfield 29, 3) := by decide +kernel
theorem d2_167 : decode prog_20_method_1_code 167 = .ok (.aload_n 0, 1) := by decide +kernel
theorem d2_168 : decode prog_20_method_1_code 168 = .ok (.getfield 26, 3) := by decide +kernel
theorem d2_171 : decode prog_20_method_1_code 171 = .ok (.aload_n 3, 1) := by decide +kernel
theorem d2_172 : decode prog_20_method_1_code 172 = .ok (.iload 7, 2) := by decide +kernel
theorem d2_174 : decode prog_20_method_1_code 174 = .ok (.iaload, 1) := by decide +kernel
theorem d2_175 : decode prog_20_method_1_code 175 = .ok (.dup2, 1) := by decide +kernel
theorem d2_176 : decode prog_20_method_1_code 176 = .ok (.iaload, 1) := by decide +kernel
theorem d2_177 : decode prog_20_method_1_code 177 = .ok (.iconst 1, 1) := by decide +kernel
theorem d2_178 : decode prog_20_method_1_code 178 = .ok (.isub, 1) := by decide +kernel
theorem d2_179 : decode prog_20_method_1_code 179 = .ok (.dup_x2, 1) := by decide +kernel
theorem d2_180 : decode prog_20_method_1_code 180 = .ok (.iastore, 1) := by decide +kernel
theorem d2_181 : decode prog_20_method_1_code 181 = .ok (.iload 7, 2) := by decide +kernel
theorem d2_183 : decode prog_20_method_1_code 183 = .ok (.iastore, 1) := by decide +kernel
theorem d2_184 : decode prog_20_method_1_code 184 = .ok (.iinc 7 (-1), 3) := by decide +kernel
theorem d2_187 : decode prog_20_method_1_code 187 = .ok (.goto (-52), 3) := by decide +kernel
theorem d2_190 : decode prog_20_method_1_code 190 = .ok (.return_, 1) := by decide +kernel
set_option maxRecDepth 65536 in
set_option maxHeartbeats 40000000 in
theorem lp135 {p : Program} {l : Launch} {e : Env} {s : State} {m : MethodId} {args : Array Value} {below : List Frame} {meth : Method} {c : Code} {Z : State} {a0 : Array Value} {n0 : Nat} {hO : Heap} (a1 : Addr) (p2 p3 : Int32) (a4 a5 a6 : Addr) (F S : List Int32) (nn vv : Nat) (b1 b2 : Addr) (i6 : Int32)
    (hx : p.tables.exec = Jvm.exec) (hZ : Z.Warmed39 s.vm) (hw : ∀ d ∈ tables_1, d.before a0 Z = true) (hby : c.code = prog_20_method_1_code) (hml : c.maxLocals = 8) (hown : s.vm.findClass "com/example/dendrocover/dendrocover/Network" = some m.cls) (hlk : meth.locks = false) (hret : meth.sig.returnType = (none : Option FieldType)) (hnm : meth.name = "<init>") (g1 : n0 ≤ a1) (hv : p2.toInt = vv) (hv2 : vv ≤ 2) (hn : p3.toInt = nn) (hn2 : nn ≤ 3) (hF : nn < F.length) (hS : nn < S.length) (hf : ∀ i, 1 ≤ i → i ≤ nn → 1 ≤ fv F i ∧ fv F i ≤ (vv : Int)) (hs : ∀ i, 1 ≤ i → i ≤ nn → 1 ≤ fv S i ∧ fv S i ≤ (vv : Int)) (gb : n0 ≤ b1) (gi : n0 ≤ b2) (sz_b1 : hO.size ≤ b1) (sz_b2 : hO.size ≤ b2) (ne_a1_a4 : a1 ≠ a4) (ne_a1_a5 : a1 ≠ a5) (ne_a1_b1 : a1 ≠ b1) (ne_a4_b1 : a4 ≠ b1) (ne_a5_b1 : a5 ≠ b1) (ne_a1_b2 : a1 ≠ b2) (ne_a4_b2 : a4 ≠ b2) (ne_a5_b2 : a5 ≠ b2) (ne_b1_b2 : b1 ≠ b2) :
    ∀ (k : Nat) (T : State) (locs : List Loc) (h0 : Heap) (ss : List Int32) (ws : List Int32) (i7 : Int32) (ii : Nat) (X0 : Stand p l e ({ frames := 1, cells := 2, slots := 10, locals := 12 } : Room) s m args below meth c T locs 2 10) (N0 : Fr n0 locs) (Z0 : n0 ≤ h0.size) (e0 : T.heap = h0) (K0 : Keep hO h0 [a1]) (E1 : Exa Z h0 a1 "com/example/dendrocover/dendrocover/Network") (F_roadCount : Fld Z h0 a1 "com/example/dendrocover/dendrocover/Network" "roadCount" "I" (.int p3)) (F_firstEnd : Fld Z h0 a1 "com/example/dendrocover/dendrocover/Network" "firstEnd" "[I" (.ref a4)) (F_secondEnd : Fld Z h0 a1 "com/example/dendrocover/dendrocover/Network" "secondEnd" "[I" (.ref a5)) (F_length : Fld Z h0 a1 "com/example/dendrocover/dendrocover/Network" "length" "[I" (.ref a6)) (F_incidenceStart : Fld Z h0 a1 "com/example/dendrocover/dendrocover/Network" "incidenceStart" "[I" (.ref b1)) (F_incident : Fld Z h0 a1 "com/example/dendrocover/dendrocover/Network" "incident" "[I" (.ref b2)) (A4 : Ax Z h0 a4 .int (F.map Value.int)) (A5 : Ax Z h0 a5 .int (S.map Value.int)) (Ab : Ax Z h0 b1 .int (ss.map Value.int)) (Ai : Ax Z h0 b2 .int (ws.map Value.int)) (hlen : ss.length = vv + 2) (hwl : ws.length = 2 * nn) (hk : ii < k) (hi : i7.toInt = ii) (hii : ii ≤ nn) (hsv : SV ss (fun j => cL (fv F) (fv S) nn (j - 1) + cE (fv F) (fv S) ii j)), Done p e below s (fun v h L => v = none ∧ Fr n0 L ∧ Keep hO h [a1] ∧ Exa Z h a1 "com/example/dendrocover/dendrocover/Network" ∧ Fld Z h a1 "com/example/dendrocover/dendrocover/Network" "roadCount" "I" (.int p3) ∧ Fld Z h a1 "com/example/dendrocover/dendrocover/Network" "firstEnd" "[I" (.ref a4) ∧ Fld Z h a1 "com/example/dendrocover/dendrocover/Network" "secondEnd" "[I" (.ref a5) ∧ Fld Z h a1 "com/example/dendrocover/dendrocover/Network" "length" "[I" (.ref a6)) ({ frames := 1, cells := 2, slots := 10, locals := 12 } : Room).cells ({ frames := 1, cells := 2, slots := 10, locals := 12 } : Room).slots (T.setTop (mkF m 135 #[.val (.ref a1), .val (.int p2), .val (.int p3), .val (.ref a4), .val (.ref a5), .val (.ref a6), .val (.int i6), .val (.int i7)] [])) := by
  intro k
  induction k with
  | zero => intro T locs h0 ss ws i7 ii X0 N0 Z0 e0 K0 E1 F_roadCount F_firstEnd F_secondEnd F_length F_incidenceStart F_incident A4 A5 Ab Ai hlen hwl hk hi hii hsv; exact absurd hk (Nat.not_lt_zero _)
  | succ k ih =>
    intro T locs h0 ss ws i7 ii X0 N0 Z0 e0 K0 E1 F_roadCount F_firstEnd F_secondEnd F_length F_incidenceStart F_incident A4 A5 Ab Ai hlen hwl hk hi hii hsv
    show Done p e below s _ _ _ (T.setTop (mkF m 135 #[.val (.ref a1), .val (.int p2), .val (.int p3), .val (.ref a4), .val (.ref a5), .val (.ref a6), .val (.int i6), .val (.int i7)] []))
    refine Done.step (fun t k => XS.iload X0.here hx rfl (hb hby d2_135) rfl k) ?_
    show Done p e below s _ _ _ (T.setTop (mkF m 137 #[.val (.ref a1), .val (.int p2), .val (.int p3), .val (.ref a4), .val (.ref a5), .val (.ref a6), .val (.int i6), .val (.int i7)] [(.int i7)]))
    refine Done.step (fun t k => XS.iconst X0.here hx rfl (hb hby d2_137) k) ?_
    show Done p e below s _ _ _ (T.setTop (mkF m 138 #[.val (.ref a1), .val (.int p2), .val (.int p3), .val (.ref a4), .val (.ref a5), .val (.ref a6), .val (.int i6), .val (.int i7)] [(.int (1 : Int32)), (.int i7)]))
    by_cases c1 : i7 < (1 : Int32)
    · refine Done.step (fun t k => XS.icmpYes X0.here hx rfl (pc0 := 138) (pc' := 190) rfl (hb hby d2_138) rfl (tlt c1).1 (by decide) (by decide) k) ?_
      show Done p e below s _ _ _ (T.setTop (mkF m 190 #[.val (.ref a1), .val (.int p2), .val (.int p3), .val (.ref a4), .val (.ref a5), .val (.ref a6), .val (.int i6), .val (.int i7)] []))
      exact Done.void X0 hx hlk hret (hb hby d2_190) (by decide) (by decide) ⟨rfl, N0, (by rw [e0]; exact ⟨K0, E1, F_roadCount, F_firstEnd, F_secondEnd, F_length⟩)⟩
    · refine Done.step (fun t k => XS.icmpNo X0.here hx rfl (hb hby d2_138) rfl (flt c1).1 k) ?_
      show Done p e below s _ _ _ (T.setTop (mkF m 141 #[.val (.ref a1), .val (.int p2), .val (.int p3), .val (.ref a4), .val (.ref a5), .val (.ref a6), .val (.int i6), .val (.int i7)] []))
      have hge : 1 ≤ i7.toInt := by have := Int.not_lt.mp (fun q => c1 (Int32.lt_iff_toInt_lt.mpr q)); have e1 : (1 : Int32).toInt = 1 := rfl; omega
      refine Done.step (fun t k => XS.aloadN X0.here hx rfl (hb hby d2_141) rfl rfl k) ?_
      show Done p e below s _ _ _ (T.setTop (mkF m 142 #[.val (.ref a1), .val (.int p2), .val (.int p3), .val (.ref a4), .val (.ref a5), .val (.ref a6), .val (.int i6), .val (.int i7)] [(.ref a1)]))
      obtain ⟨T101, X101, e101, st101⟩ := getF X0 hx hZ hown (host := "") (Or.inl (hw _ (List.mem_of_getElem? (i := 28) rfl))) Via.refl e0 F_incident (g := (mkF m 142 #[.val (.ref a1), .val (.int p2), .val (.int p3), .val (.ref a4), .val (.ref a5), .val (.ref a6), .val (.int i6), .val (.int i7)] [(.ref a1)])) rfl rfl (hb hby d2_142)
      refine Done.step st101 ?_
      show Done p e below s _ _ _ (T101.setTop (mkF m 145 #[.val (.ref a1), .val (.int p2), .val (.int p3), .val (.ref a4), .val (.ref a5), .val (.ref a6), .val (.int i6), .val (.int i7)] [(.ref b2)]))
      refine Done.step (fun t k => XS.aloadN X101.here hx rfl (hb hby d2_145) rfl rfl k) ?_
      show Done p e below s _ _ _ (T101.setTop (mkF m 146 #[.val (.ref a1), .val (.int p2), .val (.int p3), .val (.ref a4), .val (.ref a5), .val (.ref a6), .val (.int i6), .val (.int i7)] [(.ref a1), (.ref b2)]))
      obtain ⟨T102, X102, e102, st102⟩ := getF X101 hx hZ hown (host := "") (Or.inl (hw _ (List.mem_of_getElem? (i := 26) rfl))) Via.refl e101 F_incidenceStart (g := (mkF m 146 #[.val (.ref a1), .val (.int p2), .val (.int p3), .val (.ref a4), .val (.ref a5), .val (.ref a6), .val (.int i6), .val (.int i7)] [(.ref a1), (.ref b2)])) rfl rfl (hb hby d2_146)
      refine Done.step st102 ?_
      show Done p e below s _ _ _ (T102.setTop (mkF m 149 #[.val (.ref a1), .val (.int p2), .val (.int p3), .val (.ref a4), .val (.ref a5), .val (.ref a6), .val (.int i6), .val (.int i7)] [(.ref b1), (.ref b2)]))
      refine Done.step (fun t k => XS.aload X102.here hx rfl (hb hby d2_149) rfl rfl k) ?_
      show Done p e below s _ _ _ (T102.setTop (mkF m 151 #[.val (.ref a1), .val (.int p2), .val (.int p3), .val (.ref a4), .val (.ref a5), .val (.ref a6), .val (.int i6), .val (.int i7)] [(.ref a5), (.ref b1), (.ref b2)]))
      refine Done.step (fun t k => XS.iload X102.here hx rfl (hb hby d2_151) rfl k) ?_
      show Done p e below s _ _ _ (T102.setTop (mkF m 153 #[.val (.ref a1), .val (.int p2), .val (.int p3), .val (.ref a4), .val (.ref a5), .val (.ref a6), .val (.int i6), .val (.int i7)] [(.int i7), (.ref a5), (.ref b1), (.ref b2)]))
      obtain ⟨jj, rfl⟩ : ∃ jj, ii = jj + 1 := ⟨ii - 1, by omega⟩
      have hjk : jj < k := by omega
      have hjn : jj ≤ nn := by omega
      have hs7 := own_idx hi (Nat.lt_of_le_of_lt hii hS)
      have hf7 := own_idx hi (Nat.lt_of_le_of_lt hii hF)
      obtain ⟨y1, hy1⟩ := own_get (xs := S) hs7.2.2
      have hvy1 : fv S (jj + 1) = y1.toInt := by rw [← own_fv hy1, hs7.2.1]
      have hry1 : 1 ≤ y1.toInt ∧ y1.toInt ≤ (vv : Int) + 1 := by have q := hs (jj + 1) (Nat.le_add_left _ _) hii; rw [hvy1] at q; exact ⟨q.1, Int.le_trans q.2 (Int.le_add_of_nonneg_right (by decide))⟩
      refine Done.step (ldI X102 hx hZ e102 A5 (j := i7) (x := (.int y1)) (own_nneg hs7.1) (by rw [List.getElem?_map, hy1]; rfl) (g := (mkF m 153 #[.val (.ref a1), .val (.int p2), .val (.int p3), .val (.ref a4), .val (.ref a5), .val (.ref a6), .val (.int i6), .val (.int i7)] [(.int i7), (.ref a5), (.ref b1), (.ref b2)])) rfl rfl (hb hby d2_153)) ?_
      show Done p e below s _ _ _ (T102.setTop (mkF m 154 #[.val (.ref a1), .val (.int p2), .val (.int p3), .val (.ref a4), .val (.ref a5), .val (.ref a6), .val (.int i6), .val (.int i7)] [(.int y1), (.ref b1), (.ref b2)]))
      refine Done.step (fun t k => Jvm.Free.XT.dup2 X102.here hx rfl (hb hby d2_154) rfl rfl rfl k) ?_
      show Done p e below s _ _ _ (T102.setTop (mkF m 155 #[.val (.ref a1), .val (.int p2), .val (.int p3), .val (.ref a4), .val (.ref a5), .val (.ref a6), .val (.int i6), .val (.int i7)] [(.int y1), (.ref b1), (.int y1), (.ref b1), (.ref b2)]))
      have hiy := own_in hry1 hlen
      obtain ⟨y2, hy2⟩ := own_get (xs := ss) hiy.2.1
      have hgy : y2.toInt = cL (fv F) (fv S) nn (y1.toInt - 1) + cE (fv F) (fv S) (jj + 1) y1.toInt := hsv.at hy2 hiy.2.2.2 hiy.2.2.1
      have hb1 := net_a hii hvy1 hgy
      have hz1 := own_m1 hb1
      refine Done.step (ldI X102 hx hZ e102 Ab (j := y1) (x := (.int y2)) (own_nneg hiy.1) (by rw [List.getElem?_map, hy2]; rfl) (g := (mkF m 155 #[.val (.ref a1), .val (.int p2), .val (.int p3), .val (.ref a4), .val (.ref a5), .val (.ref a6), .val (.int i6), .val (.int i7)] [(.int y1), (.ref b1), (.int y1), (.ref b1), (.ref b2)])) rfl rfl (hb hby d2_155)) ?_
      show Done p e below s _ _ _ (T102.setTop (mkF m 156 #[.val (.ref a1), .val (.int p2), .val (.int p3), .val (.ref a4), .val (.ref a5), .val (.ref a6), .val (.int i6), .val (.int i7)] [(.int y2), (.int y1), (.ref b1), (.ref b2)]))
      refine Done.step (fun t k => XS.iconst X102.here hx rfl (hb hby d2_156) k) ?_
      show Done p e below s _ _ _ (T102.setTop (mkF m 157 #[.val (.ref a1), .val (.int p2), .val (.int p3), .val (.ref a4), .val (.ref a5), .val (.ref a6), .val (.int i6), .val (.int i7)] [(.int (1 : Int32)), (.int y2), (.int y1), (.ref b1), (.ref b2)]))
      refine Done.step (fun t k => XS.isub X102.here hx rfl (hb hby d2_157) rfl k) ?_
      show Done p e below s _ _ _ (T102.setTop (mkF m 158 #[.val (.ref a1), .val (.int p2), .val (.int p3), .val (.ref a4), .val (.ref a5), .val (.ref a6), .val (.int i6), .val (.int i7)] [(.int (y2 - (1 : Int32))), (.int y1), (.ref b1), (.ref b2)]))
      refine Done.step (fun t k => own_dupx2 X102.here hx rfl (hb hby d2_158) rfl k) ?_
      show Done p e below s _ _ _ (T102.setTop (mkF m 159 #[.val (.ref a1), .val (.int p2), .val (.int p3), .val (.ref a4), .val (.ref a5), .val (.ref a6), .val (.int i6), .val (.int i7)] [(.int (y2 - (1 : Int32))), (.int y1), (.ref b1), (.int (y2 - (1 : Int32))), (.ref b2)]))
      obtain ⟨ss1, hss1⟩ : ∃ l, l = ss.set (y1).toNatClampNeg (y2 - (1 : Int32)) := ⟨_, rfl⟩
      have hlss1 := own_len hlen hss1
      have hsv1 := hsv.set hiy.2.2.1 hz1.1 hss1
      obtain ⟨T103, h103, X103, e103, W103, A103, st103⟩ := stoI X102 hx hZ e102 Ab (j := y1) (own_nneg hiy.1) (i := (y1).toNatClampNeg) rfl (by rw [List.length_map]; exact hiy.2.1) (g := (mkF m 159 #[.val (.ref a1), .val (.int p2), .val (.int p3), .val (.ref a4), .val (.ref a5), .val (.ref a6), .val (.int i6), .val (.int i7)] [(.int (y2 - (1 : Int32))), (.int y1), (.ref b1), (.int (y2 - (1 : Int32))), (.ref b2)])) rfl rfl (hb hby d2_159)
      have f104 : Exa Z h103 a1 "com/example/dendrocover/dendrocover/Network" := E1.wr W103
      have f105 : Fld Z h103 a1 "com/example/dendrocover/dendrocover/Network" "roadCount" "I" (.int p3) := F_roadCount.other W103 (Or.inl ne_a1_b1)
      have f106 : Fld Z h103 a1 "com/example/dendrocover/dendrocover/Network" "firstEnd" "[I" (.ref a4) := F_firstEnd.other W103 (Or.inl ne_a1_b1)
      have f107 : Fld Z h103 a1 "com/example/dendrocover/dendrocover/Network" "secondEnd" "[I" (.ref a5) := F_secondEnd.other W103 (Or.inl ne_a1_b1)
      have f108 : Fld Z h103 a1 "com/example/dendrocover/dendrocover/Network" "length" "[I" (.ref a6) := F_length.other W103 (Or.inl ne_a1_b1)
      have f109 : Fld Z h103 a1 "com/example/dendrocover/dendrocover/Network" "incidenceStart" "[I" (.ref b1) := F_incidenceStart.other W103 (Or.inl ne_a1_b1)
      have f110 : Fld Z h103 a1 "com/example/dendrocover/dendrocover/Network" "incident" "[I" (.ref b2) := F_incident.other W103 (Or.inl ne_a1_b1)
      have f111 : Ax Z h103 a4 .int (F.map Value.int) := A4.other W103 ne_a4_b1
      have f112 : Ax Z h103 a5 .int (S.map Value.int) := A5.other W103 ne_a5_b1
      have f113 : Ax Z h103 b1 .int (ss1.map Value.int) := (by rw [hss1, List.map_set]; exact A103)
      have f114 : Ax Z h103 b2 .int (ws.map Value.int) := Ai.other W103 (Ne.symm ne_b1_b2)
      have Z103 : n0 ≤ h103.size := Nat.le_trans Z0 (Keep.of_wr W103).1
      have N103 := Fr.snoc X103 N0 gb
      have K103 : Keep hO h103 [a1] := K0.wr W103 (Or.inr sz_b1)
      refine Done.step st103 ?_
      show Done p e below s _ _ _ (T103.setTop (mkF m 160 #[.val (.ref a1), .val (.int p2), .val (.int p3), .val (.ref a4), .val (.ref a5), .val (.ref a6), .val (.int i6), .val (.int i7)] [(.int (y2 - (1 : Int32))), (.ref b2)]))
      refine Done.step (fun t k => XS.iload X103.here hx rfl (hb hby d2_160) rfl k) ?_
      show Done p e below s _ _ _ (T103.setTop (mkF m 162 #[.val (.ref a1), .val (.int p2), .val (.int p3), .val (.ref a4), .val (.ref a5), .val (.ref a6), .val (.int i6), .val (.int i7)] [(.int i7), (.int (y2 - (1 : Int32))), (.ref b2)]))
      obtain ⟨ws1, hws1⟩ : ∃ l, l = ws.set ((y2 - (1 : Int32))).toNatClampNeg i7 := ⟨_, rfl⟩
      have hlws1 := own_len hwl hws1
      obtain ⟨T115, h115, X115, e115, W115, A115, st115⟩ := stoI X103 hx hZ e103 f114 (j := (y2 - (1 : Int32))) (own_nneg hz1.2.1) (i := ((y2 - (1 : Int32))).toNatClampNeg) rfl (by rw [List.length_map]; exact (own_in0 hz1.2.1 hz1.2.2 hwl).1) (g := (mkF m 162 #[.val (.ref a1), .val (.int p2), .val (.int p3), .val (.ref a4), .val (.ref a5), .val (.ref a6), .val (.int i6), .val (.int i7)] [(.int i7), (.int (y2 - (1 : Int32))), (.ref b2)])) rfl rfl (hb hby d2_162)
      have f116 : Exa Z h115 a1 "com/example/dendrocover/dendrocover/Network" := f104.wr W115
      have f117 : Fld Z h115 a1 "com/example/dendrocover/dendrocover/Network" "roadCount" "I" (.int p3) := f105.other W115 (Or.inl ne_a1_b2)
      have f118 : Fld Z h115 a1 "com/example/dendrocover/dendrocover/Network" "firstEnd" "[I" (.ref a4) := f106.other W115 (Or.inl ne_a1_b2)
      have f119 : Fld Z h115 a1 "com/example/dendrocover/dendrocover/Network" "secondEnd" "[I" (.ref a5) := f107.other W115 (Or.inl ne_a1_b2)
      have f120 : Fld Z h115 a1 "com/example/dendrocover/dendrocover/Network" "length" "[I" (.ref a6) := f108.other W115 (Or.inl ne_a1_b2)
      have f121 : Fld Z h115 a1 "com/example/dendrocover/dendrocover/Network" "incidenceStart" "[I" (.ref b1) := f109.other W115 (Or.inl ne_a1_b2)
      have f122 : Fld Z h115 a1 "com/example/dendrocover/dendrocover/Network" "incident" "[I" (.ref b2) := f110.other W115 (Or.inl ne_a1_b2)
      have f123 : Ax Z h115 a4 .int (F.map Value.int) := f111.other W115 ne_a4_b2
      have f124 : Ax Z h115 a5 .int (S.map Value.int) := f112.other W115 ne_a5_b2
      have f125 : Ax Z h115 b1 .int (ss1.map Value.int) := f113.other W115 ne_b1_b2
      have f126 : Ax Z h115 b2 .int (ws1.map Value.int) := (by rw [hws1, List.map_set]; exact A115)
      have Z115 : n0 ≤ h115.size := Nat.le_trans Z103 (Keep.of_wr W115).1
      have N115 := Fr.snoc X115 N103 gi
      have K115 : Keep hO h115 [a1] := K103.wr W115 (Or.inr sz_b2)
      refine Done.step st115 ?_
      show Done p e below s _ _ _ (T115.setTop (mkF m 163 #[.val (.ref a1), .val (.int p2), .val (.int p3), .val (.ref a4), .val (.ref a5), .val (.ref a6), .val (.int i6), .val (.int i7)] []))
      refine Done.step (fun t k => XS.aloadN X115.here hx rfl (hb hby d2_163) rfl rfl k) ?_
      show Done p e below s _ _ _ (T115.setTop (mkF m 164 #[.val (.ref a1), .val (.int p2), .val (.int p3), .val (.ref a4), .val (.ref a5), .val (.ref a6), .val (.int i6), .val (.int i7)] [(.ref a1)]))
      obtain ⟨T127, X127, e127, st127⟩ := getF X115 hx hZ hown (host := "") (Or.inl (hw _ (List.mem_of_getElem? (i := 28) rfl))) Via.refl e115 f122 (g := (mkF m 164 #[.val (.ref a1), .val (.int p2), .val (.int p3), .val (.ref a4), .val (.ref a5), .val (.ref a6), .val (.int i6), .val (.int i7)] [(.ref a1)])) rfl rfl (hb hby d2_164)
      refine Done.step st127 ?_
      show Done p e below s _ _ _ (T127.setTop (mkF m 167 #[.val (.ref a1), .val (.int p2), .val (.int p3), .val (.ref a4), .val (.ref a5), .val (.ref a6), .val (.int i6), .val (.int i7)] [(.ref b2)]))
      refine Done.step (fun t k => XS.aloadN X127.here hx rfl (hb hby d2_167) rfl rfl k) ?_
      show Done p e below s _ _ _ (T127.setTop (mkF m 168 #[.val (.ref a1), .val (.int p2), .val (.int p3), .val (.ref a4), .val (.ref a5), .val (.ref a6), .val (.int i6), .val (.int i7)] [(.ref a1), (.ref b2)]))
      obtain ⟨T128, X128, e128, st128⟩ := getF X127 hx hZ hown (host := "") (Or.inl (hw _ (List.mem_of_getElem? (i := 26) rfl))) Via.refl e127 f121 (g := (mkF m 168 #[.val (.ref a1), .val (.int p2), .val (.int p3), .val (.ref a4), .val (.ref a5), .val (.ref a6), .val (.int i6), .val (.int i7)] [(.ref a1), (.ref b2)])) rfl rfl (hb hby d2_168)
      refine Done.step st128 ?_
      show Done p e below s _ _ _ (T128.setTop (mkF m 171 #[.val (.ref a1), .val (.int p2), .val (.int p3), .val (.ref a4), .val (.ref a5), .val (.ref a6), .val (.int i6), .val (.int i7)] [(.ref b1), (.ref b2)]))
      refine Done.step (fun t k => XS.aloadN X128.here hx rfl (hb hby d2_171) rfl rfl k) ?_
      show Done p e below s _ _ _ (T128.setTop (mkF m 172 #[.val (.ref a1), .val (.int p2), .val (.int p3), .val (.ref a4), .val (.ref a5), .val (.ref a6), .val (.int i6), .val (.int i7)] [(.ref a4), (.ref b1), (.ref b2)]))
      refine Done.step (fun t k => XS.iload X128.here hx rfl (hb hby d2_172) rfl k) ?_
      show Done p e below s _ _ _ (T128.setTop (mkF m 174 #[.val (.ref a1), .val (.int p2), .val (.int p3), .val (.ref a4), .val (.ref a5), .val (.ref a6), .val (.int i6), .val (.int i7)] [(.int i7), (.ref a4), (.ref b1), (.ref b2)]))
      obtain ⟨x1, hx1⟩ := own_get (xs := F) hf7.2.2
      have hvx1 : fv F (jj + 1) = x1.toInt := by rw [← own_fv hx1, hf7.2.1]
      have hrx1 : 1 ≤ x1.toInt ∧ x1.toInt ≤ (vv : Int) + 1 := by have q := hf (jj + 1) (Nat.le_add_left _ _) hii; rw [hvx1] at q; exact ⟨q.1, Int.le_trans q.2 (Int.le_add_of_nonneg_right (by decide))⟩
      refine Done.step (ldI X128 hx hZ e128 f123 (j := i7) (x := (.int x1)) (own_nneg hf7.1) (by rw [List.getElem?_map, hx1]; rfl) (g := (mkF m 174 #[.val (.ref a1), .val (.int p2), .val (.int p3), .val (.ref a4), .val (.ref a5), .val (.ref a6), .val (.int i6), .val (.int i7)] [(.int i7), (.ref a4), (.ref b1), (.ref b2)])) rfl rfl (hb hby d2_174)) ?_
      show Done p e below s _ _ _ (T128.setTop (mkF m 175 #[.val (.ref a1), .val (.int p2), .val (.int p3), .val (.ref a4), .val (.ref a5), .val (.ref a6), .val (.int i6), .val (.int i7)] [(.int x1), (.ref b1), (.ref b2)]))
      refine Done.step (fun t k => Jvm.Free.XT.dup2 X128.here hx rfl (hb hby d2_175) rfl rfl rfl k) ?_
      show Done p e below s _ _ _ (T128.setTop (mkF m 176 #[.val (.ref a1), .val (.int p2), .val (.int p3), .val (.ref a4), .val (.ref a5), .val (.ref a6), .val (.int i6), .val (.int i7)] [(.int x1), (.ref b1), (.int x1), (.ref b1), (.ref b2)]))
      have hix := own_in hrx1 hlss1
      obtain ⟨x2, hx2⟩ := own_get (xs := ss1) hix.2.1
      have hgx : x2.toInt = if x1.toInt = y1.toInt then y2.toInt - 1 else cL (fv F) (fv S) nn (x1.toInt - 1) + cE (fv F) (fv S) (jj + 1) x1.toInt := hsv1.at hx2 hix.2.2.2 hix.2.2.1
      have hb2 := net_b hii hvx1 hvy1 hgy hgx
      have hz2 := own_m1 hb2.2
      refine Done.step (ldI X128 hx hZ e128 f125 (j := x1) (x := (.int x2)) (own_nneg hix.1) (by rw [List.getElem?_map, hx2]; rfl) (g := (mkF m 176 #[.val (.ref a1), .val (.int p2), .val (.int p3), .val (.ref a4), .val (.ref a5), .val (.ref a6), .val (.int i6), .val (.int i7)] [(.int x1), (.ref b1), (.int x1), (.ref b1), (.ref b2)])) rfl rfl (hb hby d2_176)) ?_
      show Done p e below s _ _ _ (T128.setTop (mkF m 177 #[.val (.ref a1), .val (.int p2), .val (.int p3), .val (.ref a4), .val (.ref a5), .val (.ref a6), .val (.int i6), .val (.int i7)] [(.int x2), (.int x1), (.ref b1), (.ref b2)]))
      refine Done.step (fun t k => XS.iconst X128.here hx rfl (hb hby d2_177) k) ?_
      show Done p e below s _ _ _ (T128.setTop (mkF m 178 #[.val (.ref a1), .val (.int p2), .val (.int p3), .val (.ref a4), .val (.ref a5), .val (.ref a6), .val (.int i6), .val (.int i7)] [(.int (1 : Int32)), (.int x2), (.int x1), (.ref b1), (.ref b2)]))
      refine Done.step (fun t k => XS.isub X128.here hx rfl (hb hby d2_178) rfl k) ?_
      show Done p e below s _ _ _ (T128.setTop (mkF m 179 #[.val (.ref a1), .val (.int p2), .val (.int p3), .val (.ref a4), .val (.ref a5), .val (.ref a6), .val (.int i6), .val (.int i7)] [(.int (x2 - (1 : Int32))), (.int x1), (.ref b1), (.ref b2)]))
      refine Done.step (fun t k => own_dupx2 X128.here hx rfl (hb hby d2_179) rfl k) ?_
      show Done p e below s _ _ _ (T128.setTop (mkF m 180 #[.val (.ref a1), .val (.int p2), .val (.int p3), .val (.ref a4), .val (.ref a5), .val (.ref a6), .val (.int i6), .val (.int i7)] [(.int (x2 - (1 : Int32))), (.int x1), (.ref b1), (.int (x2 - (1 : Int32))), (.ref b2)]))
      obtain ⟨ss2, hss2⟩ : ∃ l, l = ss1.set (x1).toNatClampNeg (x2 - (1 : Int32)) := ⟨_, rfl⟩
      have hlss2 := own_len hlss1 hss2
      have hsv2 := hsv1.set hix.2.2.1 hz2.1 hss2
      obtain ⟨T129, h129, X129, e129, W129, A129, st129⟩ := stoI X128 hx hZ e128 f125 (j := x1) (own_nneg hix.1) (i := (x1).toNatClampNeg) rfl (by rw [List.length_map]; exact hix.2.1) (g := (mkF m 180 #[.val (.ref a1), .val (.int p2), .val (.int p3), .val (.ref a4), .val (.ref a5), .val (.ref a6), .val (.int i6), .val (.int i7)] [(.int (x2 - (1 : Int32))), (.int x1), (.ref b1), (.int (x2 - (1 : Int32))), (.ref b2)])) rfl rfl (hb hby d2_180)
      have f130 : Exa Z h129 a1 "com/example/dendrocover/dendrocover/Network" := f116.wr W129
      have f131 : Fld Z h129 a1 "com/example/dendrocover/dendrocover/Network" "roadCount" "I" (.int p3) := f117.other W129 (Or.inl ne_a1_b1)
      have f132 : Fld Z h129 a1 "com/example/dendrocover/dendrocover/Network" "firstEnd" "[I" (.ref a4) := f118.other W129 (Or.inl ne_a1_b1)
      have f133 : Fld Z h129 a1 "com/example/dendrocover/dendrocover/Network" "secondEnd" "[I" (.ref a5) := f119.other W129 (Or.inl ne_a1_b1)
      have f134 : Fld Z h129 a1 "com/example/dendrocover/dendrocover/Network" "length" "[I" (.ref a6) := f120.other W129 (Or.inl ne_a1_b1)
      have f135 : Fld Z h129 a1 "com/example/dendrocover/dendrocover/Network" "incidenceStart" "[I" (.ref b1) := f121.other W129 (Or.inl ne_a1_b1)
      have f136 : Fld Z h129 a1 "com/example/dendrocover/dendrocover/Network" "incident" "[I" (.ref b2) := f122.other W129 (Or.inl ne_a1_b1)
      have f137 : Ax Z h129 a4 .int (F.map Value.int) := f123.other W129 ne_a4_b1
      have f138 : Ax Z h129 a5 .int (S.map Value.int) := f124.other W129 ne_a5_b1
      have f139 : Ax Z h129 b1 .int (ss2.map Value.int) := (by rw [hss2, List.map_set]; exact A129)
      have f140 : Ax Z h129 b2 .int (ws1.map Value.int) := f126.other W129 (Ne.symm ne_b1_b2)
      have Z129 : n0 ≤ h129.size := Nat.le_trans Z115 (Keep.of_wr W129).1
      have N129 := Fr.snoc X129 N115 gb
      have K129 : Keep hO h129 [a1] := K115.wr W129 (Or.inr sz_b1)
      refine Done.step st129 ?_
      show Done p e below s _ _ _ (T129.setTop (mkF m 181 #[.val (.ref a1), .val (.int p2), .val (.int p3), .val (.ref a4), .val (.ref a5), .val (.ref a6), .val (.int i6), .val (.int i7)] [(.int (x2 - (1 : Int32))), (.ref b2)]))
      refine Done.step (fun t k => XS.iload X129.here hx rfl (hb hby d2_181) rfl k) ?_
      show Done p e below s _ _ _ (T129.setTop (mkF m 183 #[.val (.ref a1), .val (.int p2), .val (.int p3), .val (.ref a4), .val (.ref a5), .val (.ref a6), .val (.int i6), .val (.int i7)] [(.int i7), (.int (x2 - (1 : Int32))), (.ref b2)]))
      obtain ⟨ws2, hws2⟩ : ∃ l, l = ws1.set ((x2 - (1 : Int32))).toNatClampNeg i7 := ⟨_, rfl⟩
      have hlws2 := own_len hlws1 hws2
      obtain ⟨T141, h141, X141, e141, W141, A141, st141⟩ := stoI X129 hx hZ e129 f140 (j := (x2 - (1 : Int32))) (own_nneg hz2.2.1) (i := ((x2 - (1 : Int32))).toNatClampNeg) rfl (by rw [List.length_map]; exact (own_in0 hz2.2.1 hz2.2.2 hlws1).1) (g := (mkF m 183 #[.val (.ref a1), .val (.int p2), .val (.int p3), .val (.ref a4), .val (.ref a5), .val (.ref a6), .val (.int i6), .val (.int i7)] [(.int i7), (.int (x2 - (1 : Int32))), (.ref b2)])) rfl rfl (hb hby d2_183)
      have f142 : Exa Z h141 a1 "com/example/dendrocover/dendrocover/Network" := f130.wr W141
      have f143 : Fld Z h141 a1 "com/example/dendrocover/dendrocover/Network" "roadCount" "I" (.int p3) := f131.other W141 (Or.inl ne_a1_b2)
      have f144 : Fld Z h141 a1 "com/example/dendrocover/dendrocover/Network" "firstEnd" "[I" (.ref a4) := f132.other W141 (Or.inl ne_a1_b2)
      have f145 : Fld Z h141 a1 "com/example/dendrocover/dendrocover/Network" "secondEnd" "[I" (.ref a5) := f133.other W141 (Or.inl ne_a1_b2)
      have f146 : Fld Z h141 a1 "com/example/dendrocover/dendrocover/Network" "length" "[I" (.ref a6) := f134.other W141 (Or.inl ne_a1_b2)
      have f147 : Fld Z h141 a1 "com/example/dendrocover/dendrocover/Network" "incidenceStart" "[I" (.ref b1) := f135.other W141 (Or.inl ne_a1_b2)
      have f148 : Fld Z h141 a1 "com/example/dendrocover/dendrocover/Network" "incident" "[I" (.ref b2) := f136.other W141 (Or.inl ne_a1_b2)
      have f149 : Ax Z h141 a4 .int (F.map Value.int) := f137.other W141 ne_a4_b2
      have f150 : Ax Z h141 a5 .int (S.map Value.int) := f138.other W141 ne_a5_b2
      have f151 : Ax Z h141 b1 .int (ss2.map Value.int) := f139.other W141 ne_b1_b2
      have f152 : Ax Z h141 b2 .int (ws2.map Value.int) := (by rw [hws2, List.map_set]; exact A141)
      have Z141 : n0 ≤ h141.size := Nat.le_trans Z129 (Keep.of_wr W141).1
      have N141 := Fr.snoc X141 N129 gi
      have K141 : Keep hO h141 [a1] := K129.wr W141 (Or.inr sz_b2)
      refine Done.step st141 ?_
      show Done p e below s _ _ _ (T141.setTop (mkF m 184 #[.val (.ref a1), .val (.int p2), .val (.int p3), .val (.ref a4), .val (.ref a5), .val (.ref a6), .val (.int i6), .val (.int i7)] []))
      refine Done.step (fun t k => XS.iinc X141.here hx rfl (hb hby d2_184) rfl (l' := #[.val (.ref a1), .val (.int p2), .val (.int p3), .val (.ref a4), .val (.ref a5), .val (.ref a6), .val (.int i6), .val (.int (i7 + (-1 : Int32)))]) rfl k) ?_
      show Done p e below s _ _ _ (T141.setTop (mkF m 187 #[.val (.ref a1), .val (.int p2), .val (.int p3), .val (.ref a4), .val (.ref a5), .val (.ref a6), .val (.int i6), .val (.int (i7 + (-1 : Int32)))] []))
      refine Done.step (fun t k => XS.goto X141.here hx rfl (pc0 := 187) (pc' := 135) rfl (hb hby d2_187) (by decide) (by decide) k) ?_
      show Done p e below s _ _ _ (T141.setTop (mkF m 135 #[.val (.ref a1), .val (.int p2), .val (.int p3), .val (.ref a4), .val (.ref a5), .val (.ref a6), .val (.int i6), .val (.int (i7 + (-1 : Int32)))] []))
      have hsv3 : SV ss2 (fun j => cL (fv F) (fv S) nn (j - 1) + cE (fv F) (fv S) jj j) := hsv2.same (fun j hj => net_c hvx1 hvy1 hgy hb2.1 j)
      exact ih T141 _ h141 ss2 ws2 (i7 + (-1 : Int32)) jj X141 N141 Z141 e141 K141 f142 f143 f144 f145 f146 f147 f148 f149 f150 f151 f152 hlss2 hlws2 hjk (own_dec hi) hjn hsv3
theorem own_rep {Z : State} {h : Heap} {a : Addr} {n : Nat} (A : Ax Z h a .int (List.replicate n (.int (0 : Int32)))) : Ax Z h a .int ((List.replicate n (0 : Int32)).map Value.int) := by rw [List.map_replicate]; exact A
theorem d2_88 : decode prog_20_method_1_code 88 = .ok (.iload 7, 2) := by decide +kernel
theorem d2_90 : decode prog_20_method_1_code 90 = .ok (.iload_n 1, 1) := by decide +kernel
theorem d2_91 : decode prog_20_method_1_code 91 = .ok (.iconst 1, 1) := by decide +kernel
theorem d2_92 : decode prog_20_method_1_code 92 = .ok (.iadd, 1) := by decide +kernel
theorem d2_93 : decode prog_20_method_1_code 93 = .ok (.if_icmp .gt 30, 3) := by decide +kernel
theorem d2_96 : decode prog_20_method_1_code 96 = .ok (.iload 6, 2) := by decide +kernel
theorem d2_98 : decode prog_20_method_1_code 98 = .ok (.aload_n 0, 1) := by decide +kernel
theorem d2_99 : decode prog_20_method_1_code 99 = .ok (.getfield 26, 3) := by decide +kernel
theorem d2_102 : decode prog_20_method_1_code 102 = .ok (.iload 7, 2) := by decide +kernel
theorem d2_104 : decode prog_20_method_1_code 104 = .ok (.iaload, 1) := by decide +kernel
theorem d2_105 : decode prog_20_method_1_code 105 = .ok (.iadd, 1) := by decide +kernel
theorem d2_106 : decode prog_20_method_1_code 106 = .ok (.istore 6, 2) := by decide +kernel
theorem d2_108 : decode prog_20_method_1_code 108 = .ok (.aload_n 0, 1) := by decide +kernel
theorem d2_109 : decode prog_20_method_1_code 109 = .ok (.getfield 26, 3) := by decide +kernel
theorem d2_112 : decode prog_20_method_1_code 112 = .ok (.iload 7, 2) := by decide +kernel
theorem d2_114 : decode prog_20_method_1_code 114 = .ok (.iload 6, 2) := by decide +kernel
theorem d2_116 : decode prog_20_method_1_code 116 = .ok (.iastore, 1) := by decide +kernel
theorem d2_117 : decode prog_20_method_1_code 117 = .ok (.iinc 7 1, 3) := by decide +kernel
theorem d2_120 : decode prog_20_method_1_code 120 = .ok (.goto (-32), 3) := by decide +kernel
theorem d2_123 : decode prog_20_method_1_code 123 = .ok (.aload_n 0, 1) := by decide +kernel
theorem d2_124 : decode prog_20_method_1_code 124 = .ok (.iconst 2, 1) := by decide +kernel
theorem d2_125 : decode prog_20_method_1_code 125 = .ok (.iload_n 2, 1) := by decide +kernel
theorem d2_126 : decode prog_20_method_1_code 126 = .ok (.imul, 1) := by decide +kernel
theorem d2_127 : decode prog_20_method_1_code 127 = .ok (.newarray .int, 2) := by decide +kernel
theorem d2_129 : decode prog_20_method_1_code 129 = .ok (.putfield 29, 3) := by decide +kernel
theorem d2_132 : decode prog_20_method_1_code 132 = .ok (.iload_n 2, 1) := by decide +kernel
theorem d2_133 : decode prog_20_method_1_code 133 = .ok (.istore 7, 2) := by decide +kernel
set_option maxRecDepth 65536 in
set_option maxHeartbeats 40000000 in
theorem lp88 {p : Program} {l : Launch} {e : Env} {s : State} {m : MethodId} {args : Array Value} {below : List Frame} {meth : Method} {c : Code} {Z : State} {a0 : Array Value} {n0 : Nat} {hO : Heap} (a1 : Addr) (p2 p3 : Int32) (a4 a5 a6 : Addr) (F S : List Int32) (nn vv : Nat) (b1 : Addr)
    (hx : p.tables.exec = Jvm.exec) (hZ : Z.Warmed39 s.vm) (hw : ∀ d ∈ tables_1, d.before a0 Z = true) (hby : c.code = prog_20_method_1_code) (hml : c.maxLocals = 8) (hown : s.vm.findClass "com/example/dendrocover/dendrocover/Network" = some m.cls) (hlk : meth.locks = false) (hret : meth.sig.returnType = (none : Option FieldType)) (hnm : meth.name = "<init>") (g1 : n0 ≤ a1) (hv : p2.toInt = vv) (hv2 : vv ≤ 2) (hn : p3.toInt = nn) (hn2 : nn ≤ 3) (hF : nn < F.length) (hS : nn < S.length) (hf : ∀ i, 1 ≤ i → i ≤ nn → 1 ≤ fv F i ∧ fv F i ≤ (vv : Int)) (hs : ∀ i, 1 ≤ i → i ≤ nn → 1 ≤ fv S i ∧ fv S i ≤ (vv : Int)) (gb : n0 ≤ b1) (sz_b1 : hO.size ≤ b1) (ne_a1_a4 : a1 ≠ a4) (ne_a1_a5 : a1 ≠ a5) (ne_a1_b1 : a1 ≠ b1) (ne_a4_b1 : a4 ≠ b1) (ne_a5_b1 : a5 ≠ b1) :
    ∀ (k : Nat) (T : State) (locs : List Loc) (h0 : Heap) (ss : List Int32) (i6 : Int32) (i7 : Int32) (tt : Nat) (X0 : Stand p l e ({ frames := 1, cells := 2, slots := 10, locals := 12 } : Room) s m args below meth c T locs 1 4) (N0 : Fr n0 locs) (Z0 : n0 ≤ h0.size) (e0 : T.heap = h0) (K0 : Keep hO h0 [a1]) (E1 : Exa Z h0 a1 "com/example/dendrocover/dendrocover/Network") (F_roadCount : Fld Z h0 a1 "com/example/dendrocover/dendrocover/Network" "roadCount" "I" (.int p3)) (F_firstEnd : Fld Z h0 a1 "com/example/dendrocover/dendrocover/Network" "firstEnd" "[I" (.ref a4)) (F_secondEnd : Fld Z h0 a1 "com/example/dendrocover/dendrocover/Network" "secondEnd" "[I" (.ref a5)) (F_length : Fld Z h0 a1 "com/example/dendrocover/dendrocover/Network" "length" "[I" (.ref a6)) (F_incidenceStart : Fld Z h0 a1 "com/example/dendrocover/dendrocover/Network" "incidenceStart" "[I" (.ref b1)) (F_incident : Fld Z h0 a1 "com/example/dendrocover/dendrocover/Network" "incident" "[I" .null) (A4 : Ax Z h0 a4 .int (F.map Value.int)) (A5 : Ax Z h0 a5 .int (S.map Value.int)) (Ab : Ax Z h0 b1 .int (ss.map Value.int)) (hlen : ss.length = vv + 2) (hk : vv + 2 - tt < k) (hi : i7.toInt = (tt : Int)) (ht1 : 1 ≤ tt) (ht2 : tt ≤ vv + 2) (hsum : i6.toInt = cL (fv F) (fv S) nn ((tt : Int) - 1)) (hsv : SV ss (fun j => if j < (tt : Int) then cL (fv F) (fv S) nn j else cE (fv F) (fv S) nn j)), Done p e below s (fun v h L => v = none ∧ Fr n0 L ∧ Keep hO h [a1] ∧ Exa Z h a1 "com/example/dendrocover/dendrocover/Network" ∧ Fld Z h a1 "com/example/dendrocover/dendrocover/Network" "roadCount" "I" (.int p3) ∧ Fld Z h a1 "com/example/dendrocover/dendrocover/Network" "firstEnd" "[I" (.ref a4) ∧ Fld Z h a1 "com/example/dendrocover/dendrocover/Network" "secondEnd" "[I" (.ref a5) ∧ Fld Z h a1 "com/example/dendrocover/dendrocover/Network" "length" "[I" (.ref a6)) ({ frames := 1, cells := 2, slots := 10, locals := 12 } : Room).cells ({ frames := 1, cells := 2, slots := 10, locals := 12 } : Room).slots (T.setTop (mkF m 88 #[.val (.ref a1), .val (.int p2), .val (.int p3), .val (.ref a4), .val (.ref a5), .val (.ref a6), .val (.int i6), .val (.int i7)] [])) := by
  intro k
  induction k with
  | zero => intro T locs h0 ss i6 i7 tt X0 N0 Z0 e0 K0 E1 F_roadCount F_firstEnd F_secondEnd F_length F_incidenceStart F_incident A4 A5 Ab hlen hk hi ht1 ht2 hsum hsv; exact absurd hk (Nat.not_lt_zero _)
  | succ k ih =>
    intro T locs h0 ss i6 i7 tt X0 N0 Z0 e0 K0 E1 F_roadCount F_firstEnd F_secondEnd F_length F_incidenceStart F_incident A4 A5 Ab hlen hk hi ht1 ht2 hsum hsv
    show Done p e below s _ _ _ (T.setTop (mkF m 88 #[.val (.ref a1), .val (.int p2), .val (.int p3), .val (.ref a4), .val (.ref a5), .val (.ref a6), .val (.int i6), .val (.int i7)] []))
    have hp1 : (p2 + (1 : Int32)).toInt = vv + 1 := by rw [own_plus own_one (by omega) (by omega), hv]
    refine Done.step (fun t k => XS.iload X0.here hx rfl (hb hby d2_88) rfl k) ?_
    show Done p e below s _ _ _ (T.setTop (mkF m 90 #[.val (.ref a1), .val (.int p2), .val (.int p3), .val (.ref a4), .val (.ref a5), .val (.ref a6), .val (.int i6), .val (.int i7)] [(.int i7)]))
    refine Done.step (fun t k => XS.iloadN X0.here hx rfl (hb hby d2_90) rfl k) ?_
    show Done p e below s _ _ _ (T.setTop (mkF m 91 #[.val (.ref a1), .val (.int p2), .val (.int p3), .val (.ref a4), .val (.ref a5), .val (.ref a6), .val (.int i6), .val (.int i7)] [(.int p2), (.int i7)]))
    refine Done.step (fun t k => XS.iconst X0.here hx rfl (hb hby d2_91) k) ?_
    show Done p e below s _ _ _ (T.setTop (mkF m 92 #[.val (.ref a1), .val (.int p2), .val (.int p3), .val (.ref a4), .val (.ref a5), .val (.ref a6), .val (.int i6), .val (.int i7)] [(.int (1 : Int32)), (.int p2), (.int i7)]))
    refine Done.step (fun t k => XS.iadd X0.here hx rfl (hb hby d2_92) rfl k) ?_
    show Done p e below s _ _ _ (T.setTop (mkF m 93 #[.val (.ref a1), .val (.int p2), .val (.int p3), .val (.ref a4), .val (.ref a5), .val (.ref a6), .val (.int i6), .val (.int i7)] [(.int (p2 + (1 : Int32))), (.int i7)]))
    by_cases c1 : (p2 + (1 : Int32)) < i7
    · refine Done.step (fun t k => XS.icmpYes X0.here hx rfl (pc0 := 93) (pc' := 123) rfl (hb hby d2_93) rfl (tlt c1).2.2.1 (by decide) (by decide) k) ?_
      show Done p e below s _ _ _ (T.setTop (mkF m 123 #[.val (.ref a1), .val (.int p2), .val (.int p3), .val (.ref a4), .val (.ref a5), .val (.ref a6), .val (.int i6), .val (.int i7)] []))
      refine Done.step (fun t k => XS.aloadN X0.here hx rfl (hb hby d2_123) rfl rfl k) ?_
      show Done p e below s _ _ _ (T.setTop (mkF m 124 #[.val (.ref a1), .val (.int p2), .val (.int p3), .val (.ref a4), .val (.ref a5), .val (.ref a6), .val (.int i6), .val (.int i7)] [(.ref a1)]))
      refine Done.step (fun t k => XS.iconst X0.here hx rfl (hb hby d2_124) k) ?_
      show Done p e below s _ _ _ (T.setTop (mkF m 125 #[.val (.ref a1), .val (.int p2), .val (.int p3), .val (.ref a4), .val (.ref a5), .val (.ref a6), .val (.int i6), .val (.int i7)] [(.int (2 : Int32)), (.ref a1)]))
      refine Done.step (fun t k => XS.iloadN X0.here hx rfl (hb hby d2_125) rfl k) ?_
      show Done p e below s _ _ _ (T.setTop (mkF m 126 #[.val (.ref a1), .val (.int p2), .val (.int p3), .val (.ref a4), .val (.ref a5), .val (.ref a6), .val (.int i6), .val (.int i7)] [(.int p3), (.int (2 : Int32)), (.ref a1)]))
      refine Done.step (fun t k => XS.imul X0.here hx rfl (hb hby d2_126) rfl k) ?_
      show Done p e below s _ _ _ (T.setTop (mkF m 127 #[.val (.ref a1), .val (.int p2), .val (.int p3), .val (.ref a4), .val (.ref a5), .val (.ref a6), .val (.int i6), .val (.int i7)] [(.int ((2 : Int32) * p3)), (.ref a1)]))
      have hgt : (vv : Int) + 1 < i7.toInt := by have := Int32.lt_iff_toInt_lt.mp c1; omega
      obtain rfl : tt = vv + 2 := by omega
      have hmul : ((2 : Int32) * p3).toInt = 2 * nn := by have a := c_imul (2 : Int32) p3; have r := rng32 ((2 : Int32) * p3); rw [hn, show (2 : Int32).toInt = 2 from rfl] at a; omega
      have hmc := own_clamp (x := (2 : Int32) * p3) (by omega)
      obtain ⟨T101, h101, k101, X101, e101, E101, A101, B101, st101⟩ := newPE X0 hx hZ (hw _ (List.mem_of_getElem? (i := 5) rfl)) e0 (g := (mkF m 127 #[.val (.ref a1), .val (.int p2), .val (.int p3), .val (.ref a4), .val (.ref a5), .val (.ref a6), .val (.int i6), .val (.int i7)] [(.int ((2 : Int32) * p3)), (.ref a1)])) rfl (hb hby d2_127) rfl (own_nneg (by omega)) (cap := 6) (by omega) (by decide) (by decide) (by decide) (ad := "[I") (by decide)
      obtain ⟨b101, gq101⟩ : ∃ z, z = h0.size := ⟨_, rfl⟩
      rw [← gq101] at A101 B101 st101
      have ne102 : a1 ≠ b101 := Nat.ne_of_lt (Nat.lt_of_lt_of_le E1.lt (Nat.le_of_eq gq101.symm))
      have ne103 : a4 ≠ b101 := Nat.ne_of_lt (Nat.lt_of_lt_of_le A4.lt (Nat.le_of_eq gq101.symm))
      have ne104 : a5 ≠ b101 := Nat.ne_of_lt (Nat.lt_of_lt_of_le A5.lt (Nat.le_of_eq gq101.symm))
      have ne105 : b1 ≠ b101 := Nat.ne_of_lt (Nat.lt_of_lt_of_le Ab.lt (Nat.le_of_eq gq101.symm))
      have f106 : Exa Z h101 a1 "com/example/dendrocover/dendrocover/Network" := E1.ext E101
      have f107 : Fld Z h101 a1 "com/example/dendrocover/dendrocover/Network" "roadCount" "I" (.int p3) := F_roadCount.ext E101
      have f108 : Fld Z h101 a1 "com/example/dendrocover/dendrocover/Network" "firstEnd" "[I" (.ref a4) := F_firstEnd.ext E101
      have f109 : Fld Z h101 a1 "com/example/dendrocover/dendrocover/Network" "secondEnd" "[I" (.ref a5) := F_secondEnd.ext E101
      have f110 : Fld Z h101 a1 "com/example/dendrocover/dendrocover/Network" "length" "[I" (.ref a6) := F_length.ext E101
      have f111 : Fld Z h101 a1 "com/example/dendrocover/dendrocover/Network" "incidenceStart" "[I" (.ref b1) := F_incidenceStart.ext E101
      have f112 : Fld Z h101 a1 "com/example/dendrocover/dendrocover/Network" "incident" "[I" .null := F_incident.ext E101
      have f113 : Ax Z h101 a4 .int (F.map Value.int) := A4.ext E101
      have f114 : Ax Z h101 a5 .int (S.map Value.int) := A5.ext E101
      have f115 : Ax Z h101 b1 .int (ss.map Value.int) := Ab.ext E101
      have g_b101 : n0 ≤ b101 := Nat.le_trans Z0 (Nat.le_of_eq gq101.symm)
      have sz_b101 : hO.size ≤ b101 := Nat.le_trans K0.1 (Nat.le_of_eq gq101.symm)
      have Z101 : n0 ≤ h101.size := Nat.le_trans Z0 E101.1
      have K101 : Keep hO h101 [a1] := K0.ext E101
      have f116 : Ax Z h101 b101 .int (List.replicate (2 * nn) (.int (0 : Int32))) := Ax.new (ty := .int) (i := (2 * nn)) A101 (by omega)
      refine Done.step st101 ?_
      show Done p e below s _ _ _ (T101.setTop (mkF m 129 #[.val (.ref a1), .val (.int p2), .val (.int p3), .val (.ref a4), .val (.ref a5), .val (.ref a6), .val (.int i6), .val (.int i7)] [(.ref b101), (.ref a1)]))
      obtain ⟨T117, h117, X117, e117, W117, st117⟩ := putF X101 hx hZ hown (host := "") (Or.inl (hw _ (List.mem_of_getElem? (i := 28) rfl))) Via.refl e101 f112 f106 (Or.inr ⟨(hw _ (List.mem_of_getElem? (i := 29) rfl)), rfl, hnm⟩) (hw _ (List.mem_of_getElem? (i := 8) rfl)) (ty := (.array .int)) (by decide) rfl rfl (g := (mkF m 129 #[.val (.ref a1), .val (.int p2), .val (.int p3), .val (.ref a4), .val (.ref a5), .val (.ref a6), .val (.int i6), .val (.int i7)] [(.ref b101), (.ref a1)])) rfl rfl (hb hby d2_129)
      have f118 : Exa Z h117 a1 "com/example/dendrocover/dendrocover/Network" := f106.wr W117
      have f119 : Fld Z h117 a1 "com/example/dendrocover/dendrocover/Network" "roadCount" "I" (.int p3) := f107.other W117 (Or.inr (slot_ne (Or.inr (hw _ (List.mem_of_getElem? (i := 19) rfl))) (Or.inr (hw _ (List.mem_of_getElem? (i := 29) rfl))) (by decide) (t := .int) (t' := (.array .int)) (by decide) (by decide)))
      have f120 : Fld Z h117 a1 "com/example/dendrocover/dendrocover/Network" "firstEnd" "[I" (.ref a4) := f108.other W117 (Or.inr (slot_ne (Or.inr (hw _ (List.mem_of_getElem? (i := 21) rfl))) (Or.inr (hw _ (List.mem_of_getElem? (i := 29) rfl))) (by decide) (t := (.array .int)) (t' := (.array .int)) (by decide) (by decide)))
      have f121 : Fld Z h117 a1 "com/example/dendrocover/dendrocover/Network" "secondEnd" "[I" (.ref a5) := f109.other W117 (Or.inr (slot_ne (Or.inr (hw _ (List.mem_of_getElem? (i := 23) rfl))) (Or.inr (hw _ (List.mem_of_getElem? (i := 29) rfl))) (by decide) (t := (.array .int)) (t' := (.array .int)) (by decide) (by decide)))
      have f122 : Fld Z h117 a1 "com/example/dendrocover/dendrocover/Network" "length" "[I" (.ref a6) := f110.other W117 (Or.inr (slot_ne (Or.inr (hw _ (List.mem_of_getElem? (i := 25) rfl))) (Or.inr (hw _ (List.mem_of_getElem? (i := 29) rfl))) (by decide) (t := (.array .int)) (t' := (.array .int)) (by decide) (by decide)))
      have f123 : Fld Z h117 a1 "com/example/dendrocover/dendrocover/Network" "incidenceStart" "[I" (.ref b1) := f111.other W117 (Or.inr (slot_ne (Or.inr (hw _ (List.mem_of_getElem? (i := 27) rfl))) (Or.inr (hw _ (List.mem_of_getElem? (i := 29) rfl))) (by decide) (t := (.array .int)) (t' := (.array .int)) (by decide) (by decide)))
      have f124 : Fld Z h117 a1 "com/example/dendrocover/dendrocover/Network" "incident" "[I" (.ref b101) := f112.same W117
      have f125 : Ax Z h117 a4 .int (F.map Value.int) := f113.other W117 (Ne.symm ne_a1_a4)
      have f126 : Ax Z h117 a5 .int (S.map Value.int) := f114.other W117 (Ne.symm ne_a1_a5)
      have f127 : Ax Z h117 b1 .int (ss.map Value.int) := f115.other W117 (Ne.symm ne_a1_b1)
      have f128 : Exa Z h117 b101 "[I" := B101.wr W117
      have f129 : Ax Z h117 b101 .int (List.replicate (2 * nn) (.int (0 : Int32))) := f116.other W117 (Ne.symm ne102)
      have Z117 : n0 ≤ h117.size := Nat.le_trans Z101 (Keep.of_wr W117).1
      have N117 := Fr.snoc X117 N0 g1
      have K117 : Keep hO h117 [a1] := K101.wr W117 (Or.inl (by simp))
      refine Done.step st117 ?_
      show Done p e below s _ _ _ (T117.setTop (mkF m 132 #[.val (.ref a1), .val (.int p2), .val (.int p3), .val (.ref a4), .val (.ref a5), .val (.ref a6), .val (.int i6), .val (.int i7)] []))
      refine Done.step (fun t k => XS.iloadN X117.here hx rfl (hb hby d2_132) rfl k) ?_
      show Done p e below s _ _ _ (T117.setTop (mkF m 133 #[.val (.ref a1), .val (.int p2), .val (.int p3), .val (.ref a4), .val (.ref a5), .val (.ref a6), .val (.int i6), .val (.int i7)] [(.int p3)]))
      refine Done.step (fun t k => XS.istore X117.here hx rfl (hb hby d2_133) rfl (l' := #[.val (.ref a1), .val (.int p2), .val (.int p3), .val (.ref a4), .val (.ref a5), .val (.ref a6), .val (.int i6), .val (.int p3)]) rfl k) ?_
      show Done p e below s _ _ _ (T117.setTop (mkF m 135 #[.val (.ref a1), .val (.int p2), .val (.int p3), .val (.ref a4), .val (.ref a5), .val (.ref a6), .val (.int i6), .val (.int p3)] []))
      have hsv3 : SV ss (fun j => cL (fv F) (fv S) nn (j - 1) + cE (fv F) (fv S) nn j) := fun j y hy hj => by
        have q := hsv j y hy hj
        dsimp only at q ⊢
        have hjl : j < ss.length := (List.getElem?_eq_some_iff.mp hy).1
        rw [if_pos (by omega)] at q
        rw [q]; exact cL_step (fv F) (fv S) nn (j : Int)
      exact lp135 a1 p2 p3 a4 a5 a6 F S nn vv b1 b101 i6 hx hZ hw hby hml hown hlk hret hnm g1 hv hv2 hn hn2 hF hS hf hs gb g_b101 sz_b1 sz_b101 ne_a1_a4 ne_a1_a5 ne_a1_b1 ne_a4_b1 ne_a5_b1 ne102 ne103 ne104 ne105 (nn + 1)  T117 _ h117 ss (List.replicate (2 * nn) (0 : Int32)) p3 nn X117 N117 Z117 e117 K117 f118 f119 f120 f121 f122 f123 f124 f125 f126 f127 (own_rep f129) hlen (List.length_replicate) (Nat.lt_succ_self _) hn (Nat.le_refl _) hsv3
    · refine Done.step (fun t k => XS.icmpNo X0.here hx rfl (hb hby d2_93) rfl (flt c1).2.2.1 k) ?_
      show Done p e below s _ _ _ (T.setTop (mkF m 96 #[.val (.ref a1), .val (.int p2), .val (.int p3), .val (.ref a4), .val (.ref a5), .val (.ref a6), .val (.int i6), .val (.int i7)] []))
      have hle : i7.toInt ≤ vv + 1 := by have := Int.not_lt.mp (fun q => c1 (Int32.lt_iff_toInt_lt.mpr q)); omega
      refine Done.step (fun t k => XS.iload X0.here hx rfl (hb hby d2_96) rfl k) ?_
      show Done p e below s _ _ _ (T.setTop (mkF m 98 #[.val (.ref a1), .val (.int p2), .val (.int p3), .val (.ref a4), .val (.ref a5), .val (.ref a6), .val (.int i6), .val (.int i7)] [(.int i6)]))
      refine Done.step (fun t k => XS.aloadN X0.here hx rfl (hb hby d2_98) rfl rfl k) ?_
      show Done p e below s _ _ _ (T.setTop (mkF m 99 #[.val (.ref a1), .val (.int p2), .val (.int p3), .val (.ref a4), .val (.ref a5), .val (.ref a6), .val (.int i6), .val (.int i7)] [(.ref a1), (.int i6)]))
      obtain ⟨T130, X130, e130, st130⟩ := getF X0 hx hZ hown (host := "") (Or.inl (hw _ (List.mem_of_getElem? (i := 26) rfl))) Via.refl e0 F_incidenceStart (g := (mkF m 99 #[.val (.ref a1), .val (.int p2), .val (.int p3), .val (.ref a4), .val (.ref a5), .val (.ref a6), .val (.int i6), .val (.int i7)] [(.ref a1), (.int i6)])) rfl rfl (hb hby d2_99)
      refine Done.step st130 ?_
      show Done p e below s _ _ _ (T130.setTop (mkF m 102 #[.val (.ref a1), .val (.int p2), .val (.int p3), .val (.ref a4), .val (.ref a5), .val (.ref a6), .val (.int i6), .val (.int i7)] [(.ref b1), (.int i6)]))
      refine Done.step (fun t k => XS.iload X130.here hx rfl (hb hby d2_102) rfl k) ?_
      show Done p e below s _ _ _ (T130.setTop (mkF m 104 #[.val (.ref a1), .val (.int p2), .val (.int p3), .val (.ref a4), .val (.ref a5), .val (.ref a6), .val (.int i6), .val (.int i7)] [(.int i7), (.ref b1), (.int i6)]))
      have hiy := own_in (x := i7) ⟨by omega, hle⟩ hlen
      obtain ⟨y2, hy2⟩ := own_get (xs := ss) hiy.2.1
      have hgy : y2.toInt = cE (fv F) (fv S) nn (tt : Int) := by have q := hsv.at hy2 hiy.2.2.2 hiy.2.2.1; (try dsimp only at q); rw [hi, if_neg (Int.lt_irrefl _)] at q; exact q
      have hz := net_g hsum hgy (by omega)
      refine Done.step (ldI X130 hx hZ e130 Ab (j := i7) (x := (.int y2)) (own_nneg hiy.1) (by rw [List.getElem?_map, hy2]; rfl) (g := (mkF m 104 #[.val (.ref a1), .val (.int p2), .val (.int p3), .val (.ref a4), .val (.ref a5), .val (.ref a6), .val (.int i6), .val (.int i7)] [(.int i7), (.ref b1), (.int i6)])) rfl rfl (hb hby d2_104)) ?_
      show Done p e below s _ _ _ (T130.setTop (mkF m 105 #[.val (.ref a1), .val (.int p2), .val (.int p3), .val (.ref a4), .val (.ref a5), .val (.ref a6), .val (.int i6), .val (.int i7)] [(.int y2), (.int i6)]))
      refine Done.step (fun t k => XS.iadd X130.here hx rfl (hb hby d2_105) rfl k) ?_
      show Done p e below s _ _ _ (T130.setTop (mkF m 106 #[.val (.ref a1), .val (.int p2), .val (.int p3), .val (.ref a4), .val (.ref a5), .val (.ref a6), .val (.int i6), .val (.int i7)] [(.int (i6 + y2))]))
      refine Done.step (fun t k => XS.istore X130.here hx rfl (hb hby d2_106) rfl (l' := #[.val (.ref a1), .val (.int p2), .val (.int p3), .val (.ref a4), .val (.ref a5), .val (.ref a6), .val (.int (i6 + y2)), .val (.int i7)]) rfl k) ?_
      show Done p e below s _ _ _ (T130.setTop (mkF m 108 #[.val (.ref a1), .val (.int p2), .val (.int p3), .val (.ref a4), .val (.ref a5), .val (.ref a6), .val (.int (i6 + y2)), .val (.int i7)] []))
      refine Done.step (fun t k => XS.aloadN X130.here hx rfl (hb hby d2_108) rfl rfl k) ?_
      show Done p e below s _ _ _ (T130.setTop (mkF m 109 #[.val (.ref a1), .val (.int p2), .val (.int p3), .val (.ref a4), .val (.ref a5), .val (.ref a6), .val (.int (i6 + y2)), .val (.int i7)] [(.ref a1)]))
      obtain ⟨T131, X131, e131, st131⟩ := getF X130 hx hZ hown (host := "") (Or.inl (hw _ (List.mem_of_getElem? (i := 26) rfl))) Via.refl e130 F_incidenceStart (g := (mkF m 109 #[.val (.ref a1), .val (.int p2), .val (.int p3), .val (.ref a4), .val (.ref a5), .val (.ref a6), .val (.int (i6 + y2)), .val (.int i7)] [(.ref a1)])) rfl rfl (hb hby d2_109)
      refine Done.step st131 ?_
      show Done p e below s _ _ _ (T131.setTop (mkF m 112 #[.val (.ref a1), .val (.int p2), .val (.int p3), .val (.ref a4), .val (.ref a5), .val (.ref a6), .val (.int (i6 + y2)), .val (.int i7)] [(.ref b1)]))
      refine Done.step (fun t k => XS.iload X131.here hx rfl (hb hby d2_112) rfl k) ?_
      show Done p e below s _ _ _ (T131.setTop (mkF m 114 #[.val (.ref a1), .val (.int p2), .val (.int p3), .val (.ref a4), .val (.ref a5), .val (.ref a6), .val (.int (i6 + y2)), .val (.int i7)] [(.int i7), (.ref b1)]))
      refine Done.step (fun t k => XS.iload X131.here hx rfl (hb hby d2_114) rfl k) ?_
      show Done p e below s _ _ _ (T131.setTop (mkF m 116 #[.val (.ref a1), .val (.int p2), .val (.int p3), .val (.ref a4), .val (.ref a5), .val (.ref a6), .val (.int (i6 + y2)), .val (.int i7)] [(.int (i6 + y2)), (.int i7), (.ref b1)]))
      obtain ⟨ss1, hss1⟩ : ∃ l, l = ss.set (i7).toNatClampNeg (i6 + y2) := ⟨_, rfl⟩
      have hlss1 := own_len hlen hss1
      have hsv1 := hsv.set (hiy.2.2.1.trans hi) hz hss1
      have hi7 := own_inc hi (by omega)
      have ht3 : vv + 2 - (tt + 1) < k := by omega
      have ht4 : tt + 1 ≤ vv + 2 := by omega
      obtain ⟨T132, h132, X132, e132, W132, A132, st132⟩ := stoI X131 hx hZ e131 Ab (j := i7) (own_nneg hiy.1) (i := (i7).toNatClampNeg) rfl (by rw [List.length_map]; exact hiy.2.1) (g := (mkF m 116 #[.val (.ref a1), .val (.int p2), .val (.int p3), .val (.ref a4), .val (.ref a5), .val (.ref a6), .val (.int (i6 + y2)), .val (.int i7)] [(.int (i6 + y2)), (.int i7), (.ref b1)])) rfl rfl (hb hby d2_116)
      have f133 : Exa Z h132 a1 "com/example/dendrocover/dendrocover/Network" := E1.wr W132
      have f134 : Fld Z h132 a1 "com/example/dendrocover/dendrocover/Network" "roadCount" "I" (.int p3) := F_roadCount.other W132 (Or.inl ne_a1_b1)
      have f135 : Fld Z h132 a1 "com/example/dendrocover/dendrocover/Network" "firstEnd" "[I" (.ref a4) := F_firstEnd.other W132 (Or.inl ne_a1_b1)
      have f136 : Fld Z h132 a1 "com/example/dendrocover/dendrocover/Network" "secondEnd" "[I" (.ref a5) := F_secondEnd.other W132 (Or.inl ne_a1_b1)
      have f137 : Fld Z h132 a1 "com/example/dendrocover/dendrocover/Network" "length" "[I" (.ref a6) := F_length.other W132 (Or.inl ne_a1_b1)
      have f138 : Fld Z h132 a1 "com/example/dendrocover/dendrocover/Network" "incidenceStart" "[I" (.ref b1) := F_incidenceStart.other W132 (Or.inl ne_a1_b1)
      have f139 : Fld Z h132 a1 "com/example/dendrocover/dendrocover/Network" "incident" "[I" .null := F_incident.other W132 (Or.inl ne_a1_b1)
      have f140 : Ax Z h132 a4 .int (F.map Value.int) := A4.other W132 ne_a4_b1
      have f141 : Ax Z h132 a5 .int (S.map Value.int) := A5.other W132 ne_a5_b1
      have f142 : Ax Z h132 b1 .int (ss1.map Value.int) := (by rw [hss1, List.map_set]; exact A132)
      have Z132 : n0 ≤ h132.size := Nat.le_trans Z0 (Keep.of_wr W132).1
      have N132 := Fr.snoc X132 N0 gb
      have K132 : Keep hO h132 [a1] := K0.wr W132 (Or.inr sz_b1)
      refine Done.step st132 ?_
      show Done p e below s _ _ _ (T132.setTop (mkF m 117 #[.val (.ref a1), .val (.int p2), .val (.int p3), .val (.ref a4), .val (.ref a5), .val (.ref a6), .val (.int (i6 + y2)), .val (.int i7)] []))
      refine Done.step (fun t k => XS.iinc X132.here hx rfl (hb hby d2_117) rfl (l' := #[.val (.ref a1), .val (.int p2), .val (.int p3), .val (.ref a4), .val (.ref a5), .val (.ref a6), .val (.int (i6 + y2)), .val (.int (i7 + (1 : Int32)))]) rfl k) ?_
      show Done p e below s _ _ _ (T132.setTop (mkF m 120 #[.val (.ref a1), .val (.int p2), .val (.int p3), .val (.ref a4), .val (.ref a5), .val (.ref a6), .val (.int (i6 + y2)), .val (.int (i7 + (1 : Int32)))] []))
      refine Done.step (fun t k => XS.goto X132.here hx rfl (pc0 := 120) (pc' := 88) rfl (hb hby d2_120) (by decide) (by decide) k) ?_
      show Done p e below s _ _ _ (T132.setTop (mkF m 88 #[.val (.ref a1), .val (.int p2), .val (.int p3), .val (.ref a4), .val (.ref a5), .val (.ref a6), .val (.int (i6 + y2)), .val (.int (i7 + (1 : Int32)))] []))
      have hsv2 := hsv1.same (fun j hj => net_f tt j)
      exact ih T132 _ h132 ss1 (i6 + y2) (i7 + (1 : Int32)) (tt + 1) X132 N132 Z132 e132 K132 f133 f134 f135 f136 f137 f138 f139 f140 f141 f142 hlss1 ht3 hi7 (Nat.le_add_left _ _) ht4 (by rw [hz]; congr 1; exact own_cast tt) hsv2
theorem d2_43 : decode prog_20_method_1_code 43 = .ok (.iload 6, 2) := by decide +kernel
theorem d2_45 : decode prog_20_method_1_code 45 = .ok (.iload_n 2, 1) := by decide +kernel
theorem d2_46 : decode prog_20_method_1_code 46 = .ok (.if_icmp .gt 36, 3) := by decide +kernel
theorem d2_49 : decode prog_20_method_1_code 49 = .ok (.aload_n 0, 1) := by decide +kernel
theorem d2_50 : decode prog_20_method_1_code 50 = .ok (.getfield 26, 3) := by decide +kernel
theorem d2_53 : decode prog_20_method_1_code 53 = .ok (.aload_n 3, 1) := by decide +kernel
theorem d2_54 : decode prog_20_method_1_code 54 = .ok (.iload 6, 2) := by decide +kernel
theorem d2_56 : decode prog_20_method_1_code 56 = .ok (.iaload, 1) := by decide +kernel
theorem d2_57 : decode prog_20_method_1_code 57 = .ok (.dup2, 1) := by decide +kernel
theorem d2_58 : decode prog_20_method_1_code 58 = .ok (.iaload, 1) := by decide +kernel
theorem d2_59 : decode prog_20_method_1_code 59 = .ok (.iconst 1, 1) := by decide +kernel
theorem d2_60 : decode prog_20_method_1_code 60 = .ok (.iadd, 1) := by decide +kernel
theorem d2_61 : decode prog_20_method_1_code 61 = .ok (.iastore, 1) := by decide +kernel
theorem d2_62 : decode prog_20_method_1_code 62 = .ok (.aload_n 0, 1) := by decide +kernel
theorem d2_63 : decode prog_20_method_1_code 63 = .ok (.getfield 26, 3) := by decide +kernel
theorem d2_66 : decode prog_20_method_1_code 66 = .ok (.aload 4, 2) := by decide +kernel
theorem d2_68 : decode prog_20_method_1_code 68 = .ok (.iload 6, 2) := by decide +kernel
theorem d2_70 : decode prog_20_method_1_code 70 = .ok (.iaload, 1) := by decide +kernel
theorem d2_71 : decode prog_20_method_1_code 71 = .ok (.dup2, 1) := by decide +kernel
theorem d2_72 : decode prog_20_method_1_code 72 = .ok (.iaload, 1) := by decide +kernel
theorem d2_73 : decode prog_20_method_1_code 73 = .ok (.iconst 1, 1) := by decide +kernel
theorem d2_74 : decode prog_20_method_1_code 74 = .ok (.iadd, 1) := by decide +kernel
theorem d2_75 : decode prog_20_method_1_code 75 = .ok (.iastore, 1) := by decide +kernel
theorem d2_76 : decode prog_20_method_1_code 76 = .ok (.iinc 6 1, 3) := by decide +kernel
theorem d2_79 : decode prog_20_method_1_code 79 = .ok (.goto (-36), 3) := by decide +kernel
theorem d2_82 : decode prog_20_method_1_code 82 = .ok (.iconst 0, 1) := by decide +kernel
theorem d2_83 : decode prog_20_method_1_code 83 = .ok (.istore 6, 2) := by decide +kernel
theorem d2_85 : decode prog_20_method_1_code 85 = .ok (.iconst 1, 1) := by decide +kernel
theorem d2_86 : decode prog_20_method_1_code 86 = .ok (.istore 7, 2) := by decide +kernel
set_option maxRecDepth 65536 in
set_option maxHeartbeats 40000000 in
theorem lp43 {p : Program} {l : Launch} {e : Env} {s : State} {m : MethodId} {args : Array Value} {below : List Frame} {meth : Method} {c : Code} {Z : State} {a0 : Array Value} {n0 : Nat} {hO : Heap} (a1 : Addr) (p2 p3 : Int32) (a4 a5 a6 : Addr) (F S : List Int32) (nn vv : Nat) (b1 : Addr)
    (hx : p.tables.exec = Jvm.exec) (hZ : Z.Warmed39 s.vm) (hw : ∀ d ∈ tables_1, d.before a0 Z = true) (hby : c.code = prog_20_method_1_code) (hml : c.maxLocals = 8) (hown : s.vm.findClass "com/example/dendrocover/dendrocover/Network" = some m.cls) (hlk : meth.locks = false) (hret : meth.sig.returnType = (none : Option FieldType)) (hnm : meth.name = "<init>") (g1 : n0 ≤ a1) (hv : p2.toInt = vv) (hv2 : vv ≤ 2) (hn : p3.toInt = nn) (hn2 : nn ≤ 3) (hF : nn < F.length) (hS : nn < S.length) (hf : ∀ i, 1 ≤ i → i ≤ nn → 1 ≤ fv F i ∧ fv F i ≤ (vv : Int)) (hs : ∀ i, 1 ≤ i → i ≤ nn → 1 ≤ fv S i ∧ fv S i ≤ (vv : Int)) (gb : n0 ≤ b1) (sz_b1 : hO.size ≤ b1) (ne_a1_a4 : a1 ≠ a4) (ne_a1_a5 : a1 ≠ a5) (ne_a1_b1 : a1 ≠ b1) (ne_a4_b1 : a4 ≠ b1) (ne_a5_b1 : a5 ≠ b1) :
    ∀ (k : Nat) (T : State) (locs : List Loc) (h0 : Heap) (ss : List Int32) (i6 : Int32) (ii : Nat) (X0 : Stand p l e ({ frames := 1, cells := 2, slots := 10, locals := 12 } : Room) s m args below meth c T locs 1 4) (N0 : Fr n0 locs) (Z0 : n0 ≤ h0.size) (e0 : T.heap = h0) (K0 : Keep hO h0 [a1]) (E1 : Exa Z h0 a1 "com/example/dendrocover/dendrocover/Network") (F_roadCount : Fld Z h0 a1 "com/example/dendrocover/dendrocover/Network" "roadCount" "I" (.int p3)) (F_firstEnd : Fld Z h0 a1 "com/example/dendrocover/dendrocover/Network" "firstEnd" "[I" (.ref a4)) (F_secondEnd : Fld Z h0 a1 "com/example/dendrocover/dendrocover/Network" "secondEnd" "[I" (.ref a5)) (F_length : Fld Z h0 a1 "com/example/dendrocover/dendrocover/Network" "length" "[I" (.ref a6)) (F_incidenceStart : Fld Z h0 a1 "com/example/dendrocover/dendrocover/Network" "incidenceStart" "[I" (.ref b1)) (F_incident : Fld Z h0 a1 "com/example/dendrocover/dendrocover/Network" "incident" "[I" .null) (A4 : Ax Z h0 a4 .int (F.map Value.int)) (A5 : Ax Z h0 a5 .int (S.map Value.int)) (Ab : Ax Z h0 b1 .int (ss.map Value.int)) (hlen : ss.length = vv + 2) (hk : nn - ii < k) (hi : i6.toInt = (ii : Int) + 1) (hii : ii ≤ nn) (hsv : SV ss (fun j => cE (fv F) (fv S) ii j)), Done p e below s (fun v h L => v = none ∧ Fr n0 L ∧ Keep hO h [a1] ∧ Exa Z h a1 "com/example/dendrocover/dendrocover/Network" ∧ Fld Z h a1 "com/example/dendrocover/dendrocover/Network" "roadCount" "I" (.int p3) ∧ Fld Z h a1 "com/example/dendrocover/dendrocover/Network" "firstEnd" "[I" (.ref a4) ∧ Fld Z h a1 "com/example/dendrocover/dendrocover/Network" "secondEnd" "[I" (.ref a5) ∧ Fld Z h a1 "com/example/dendrocover/dendrocover/Network" "length" "[I" (.ref a6)) ({ frames := 1, cells := 2, slots := 10, locals := 12 } : Room).cells ({ frames := 1, cells := 2, slots := 10, locals := 12 } : Room).slots (T.setTop (mkF m 43 #[.val (.ref a1), .val (.int p2), .val (.int p3), .val (.ref a4), .val (.ref a5), .val (.ref a6), .val (.int i6), .unset] [])) := by
  intro k
  induction k with
  | zero => intro T locs h0 ss i6 ii X0 N0 Z0 e0 K0 E1 F_roadCount F_firstEnd F_secondEnd F_length F_incidenceStart F_incident A4 A5 Ab hlen hk hi hii hsv; exact absurd hk (Nat.not_lt_zero _)
  | succ k ih =>
    intro T locs h0 ss i6 ii X0 N0 Z0 e0 K0 E1 F_roadCount F_firstEnd F_secondEnd F_length F_incidenceStart F_incident A4 A5 Ab hlen hk hi hii hsv
    show Done p e below s _ _ _ (T.setTop (mkF m 43 #[.val (.ref a1), .val (.int p2), .val (.int p3), .val (.ref a4), .val (.ref a5), .val (.ref a6), .val (.int i6), .unset] []))
    refine Done.step (fun t k => XS.iload X0.here hx rfl (hb hby d2_43) rfl k) ?_
    show Done p e below s _ _ _ (T.setTop (mkF m 45 #[.val (.ref a1), .val (.int p2), .val (.int p3), .val (.ref a4), .val (.ref a5), .val (.ref a6), .val (.int i6), .unset] [(.int i6)]))
    refine Done.step (fun t k => XS.iloadN X0.here hx rfl (hb hby d2_45) rfl k) ?_
    show Done p e below s _ _ _ (T.setTop (mkF m 46 #[.val (.ref a1), .val (.int p2), .val (.int p3), .val (.ref a4), .val (.ref a5), .val (.ref a6), .val (.int i6), .unset] [(.int p3), (.int i6)]))
    by_cases c1 : p3 < i6
    · refine Done.step (fun t k => XS.icmpYes X0.here hx rfl (pc0 := 46) (pc' := 82) rfl (hb hby d2_46) rfl (tlt c1).2.2.1 (by decide) (by decide) k) ?_
      show Done p e below s _ _ _ (T.setTop (mkF m 82 #[.val (.ref a1), .val (.int p2), .val (.int p3), .val (.ref a4), .val (.ref a5), .val (.ref a6), .val (.int i6), .unset] []))
      refine Done.step (fun t k => XS.iconst X0.here hx rfl (hb hby d2_82) k) ?_
      show Done p e below s _ _ _ (T.setTop (mkF m 83 #[.val (.ref a1), .val (.int p2), .val (.int p3), .val (.ref a4), .val (.ref a5), .val (.ref a6), .val (.int i6), .unset] [(.int (0 : Int32))]))
      refine Done.step (fun t k => XS.istore X0.here hx rfl (hb hby d2_83) rfl (l' := #[.val (.ref a1), .val (.int p2), .val (.int p3), .val (.ref a4), .val (.ref a5), .val (.ref a6), .val (.int (0 : Int32)), .unset]) rfl k) ?_
      show Done p e below s _ _ _ (T.setTop (mkF m 85 #[.val (.ref a1), .val (.int p2), .val (.int p3), .val (.ref a4), .val (.ref a5), .val (.ref a6), .val (.int (0 : Int32)), .unset] []))
      refine Done.step (fun t k => XS.iconst X0.here hx rfl (hb hby d2_85) k) ?_
      show Done p e below s _ _ _ (T.setTop (mkF m 86 #[.val (.ref a1), .val (.int p2), .val (.int p3), .val (.ref a4), .val (.ref a5), .val (.ref a6), .val (.int (0 : Int32)), .unset] [(.int (1 : Int32))]))
      refine Done.step (fun t k => XS.istore X0.here hx rfl (hb hby d2_86) rfl (l' := #[.val (.ref a1), .val (.int p2), .val (.int p3), .val (.ref a4), .val (.ref a5), .val (.ref a6), .val (.int (0 : Int32)), .val (.int (1 : Int32))]) rfl k) ?_
      show Done p e below s _ _ _ (T.setTop (mkF m 88 #[.val (.ref a1), .val (.int p2), .val (.int p3), .val (.ref a4), .val (.ref a5), .val (.ref a6), .val (.int (0 : Int32)), .val (.int (1 : Int32))] []))
      have hgt : (nn : Int) < i6.toInt := by have := Int32.lt_iff_toInt_lt.mp c1; omega
      obtain rfl : ii = nn := by omega
      have hsv2 : SV ss (fun j => if j < ((1 : Nat) : Int) then cL (fv F) (fv S) ii j else cE (fv F) (fv S) ii j) := hsv.same (fun j hj => by rw [if_neg (by omega)])
      exact lp88 a1 p2 p3 a4 a5 a6 F S ii vv b1 hx hZ hw hby hml hown hlk hret hnm g1 hv hv2 hn hn2 hF hS hf hs gb sz_b1 ne_a1_a4 ne_a1_a5 ne_a1_b1 ne_a4_b1 ne_a5_b1 (vv + 2)  T _ h0 ss (0 : Int32) (1 : Int32) 1 X0 N0 Z0 e0 K0 E1 F_roadCount F_firstEnd F_secondEnd F_length F_incidenceStart F_incident A4 A5 Ab hlen (by omega) rfl (Nat.le_refl _) (by omega) (by rw [show ((1 : Nat) : Int) - 1 = 0 from rfl, cL_zero _ _ _ _ hf hs]; rfl) hsv2
    · refine Done.step (fun t k => XS.icmpNo X0.here hx rfl (hb hby d2_46) rfl (flt c1).2.2.1 k) ?_
      show Done p e below s _ _ _ (T.setTop (mkF m 49 #[.val (.ref a1), .val (.int p2), .val (.int p3), .val (.ref a4), .val (.ref a5), .val (.ref a6), .val (.int i6), .unset] []))
      have hle : i6.toInt ≤ nn := by have := Int.not_lt.mp (fun q => c1 (Int32.lt_iff_toInt_lt.mpr q)); omega
      refine Done.step (fun t k => XS.aloadN X0.here hx rfl (hb hby d2_49) rfl rfl k) ?_
      show Done p e below s _ _ _ (T.setTop (mkF m 50 #[.val (.ref a1), .val (.int p2), .val (.int p3), .val (.ref a4), .val (.ref a5), .val (.ref a6), .val (.int i6), .unset] [(.ref a1)]))
      obtain ⟨T101, X101, e101, st101⟩ := getF X0 hx hZ hown (host := "") (Or.inl (hw _ (List.mem_of_getElem? (i := 26) rfl))) Via.refl e0 F_incidenceStart (g := (mkF m 50 #[.val (.ref a1), .val (.int p2), .val (.int p3), .val (.ref a4), .val (.ref a5), .val (.ref a6), .val (.int i6), .unset] [(.ref a1)])) rfl rfl (hb hby d2_50)
      refine Done.step st101 ?_
      show Done p e below s _ _ _ (T101.setTop (mkF m 53 #[.val (.ref a1), .val (.int p2), .val (.int p3), .val (.ref a4), .val (.ref a5), .val (.ref a6), .val (.int i6), .unset] [(.ref b1)]))
      refine Done.step (fun t k => XS.aloadN X101.here hx rfl (hb hby d2_53) rfl rfl k) ?_
      show Done p e below s _ _ _ (T101.setTop (mkF m 54 #[.val (.ref a1), .val (.int p2), .val (.int p3), .val (.ref a4), .val (.ref a5), .val (.ref a6), .val (.int i6), .unset] [(.ref a4), (.ref b1)]))
      refine Done.step (fun t k => XS.iload X101.here hx rfl (hb hby d2_54) rfl k) ?_
      show Done p e below s _ _ _ (T101.setTop (mkF m 56 #[.val (.ref a1), .val (.int p2), .val (.int p3), .val (.ref a4), .val (.ref a5), .val (.ref a6), .val (.int i6), .unset] [(.int i6), (.ref a4), (.ref b1)]))
      have hi1 : ii + 1 ≤ nn := by omega
      have hi' : i6.toInt = ((ii + 1 : Nat) : Int) := by omega
      have hs7 := own_idx hi' (Nat.lt_of_le_of_lt hi1 hS)
      have hf7 := own_idx hi' (Nat.lt_of_le_of_lt hi1 hF)
      have hkk : nn - (ii + 1) < k := by omega
      have hi7 := own_inc hi (by omega)
      obtain ⟨x1, hx1⟩ := own_get (xs := F) hf7.2.2
      have hvx1 : fv F (ii + 1) = x1.toInt := by rw [← own_fv hx1, hf7.2.1]
      have hrx1 : 1 ≤ x1.toInt ∧ x1.toInt ≤ (vv : Int) + 1 := by have q := hf (ii + 1) (Nat.le_add_left _ _) hi1; rw [hvx1] at q; exact ⟨q.1, Int.le_trans q.2 (Int.le_add_of_nonneg_right (by decide))⟩
      refine Done.step (ldI X101 hx hZ e101 A4 (j := i6) (x := (.int x1)) (own_nneg hf7.1) (by rw [List.getElem?_map, hx1]; rfl) (g := (mkF m 56 #[.val (.ref a1), .val (.int p2), .val (.int p3), .val (.ref a4), .val (.ref a5), .val (.ref a6), .val (.int i6), .unset] [(.int i6), (.ref a4), (.ref b1)])) rfl rfl (hb hby d2_56)) ?_
      show Done p e below s _ _ _ (T101.setTop (mkF m 57 #[.val (.ref a1), .val (.int p2), .val (.int p3), .val (.ref a4), .val (.ref a5), .val (.ref a6), .val (.int i6), .unset] [(.int x1), (.ref b1)]))
      refine Done.step (fun t k => Jvm.Free.XT.dup2 X101.here hx rfl (hb hby d2_57) rfl rfl rfl k) ?_
      show Done p e below s _ _ _ (T101.setTop (mkF m 58 #[.val (.ref a1), .val (.int p2), .val (.int p3), .val (.ref a4), .val (.ref a5), .val (.ref a6), .val (.int i6), .unset] [(.int x1), (.ref b1), (.int x1), (.ref b1)]))
      have hix := own_in hrx1 hlen
      obtain ⟨x2, hx2⟩ := own_get (xs := ss) hix.2.1
      have hgx : x2.toInt = cE (fv F) (fv S) ii x1.toInt := hsv.at hx2 hix.2.2.2 hix.2.2.1
      have hz1 := own_p1 (x := x2) (b := 2 * ii) (by rw [hgx]; exact cE_rng _ _ _ _) (by omega)
      refine Done.step (ldI X101 hx hZ e101 Ab (j := x1) (x := (.int x2)) (own_nneg hix.1) (by rw [List.getElem?_map, hx2]; rfl) (g := (mkF m 58 #[.val (.ref a1), .val (.int p2), .val (.int p3), .val (.ref a4), .val (.ref a5), .val (.ref a6), .val (.int i6), .unset] [(.int x1), (.ref b1), (.int x1), (.ref b1)])) rfl rfl (hb hby d2_58)) ?_
      show Done p e below s _ _ _ (T101.setTop (mkF m 59 #[.val (.ref a1), .val (.int p2), .val (.int p3), .val (.ref a4), .val (.ref a5), .val (.ref a6), .val (.int i6), .unset] [(.int x2), (.int x1), (.ref b1)]))
      refine Done.step (fun t k => XS.iconst X101.here hx rfl (hb hby d2_59) k) ?_
      show Done p e below s _ _ _ (T101.setTop (mkF m 60 #[.val (.ref a1), .val (.int p2), .val (.int p3), .val (.ref a4), .val (.ref a5), .val (.ref a6), .val (.int i6), .unset] [(.int (1 : Int32)), (.int x2), (.int x1), (.ref b1)]))
      refine Done.step (fun t k => XS.iadd X101.here hx rfl (hb hby d2_60) rfl k) ?_
      show Done p e below s _ _ _ (T101.setTop (mkF m 61 #[.val (.ref a1), .val (.int p2), .val (.int p3), .val (.ref a4), .val (.ref a5), .val (.ref a6), .val (.int i6), .unset] [(.int (x2 + (1 : Int32))), (.int x1), (.ref b1)]))
      obtain ⟨ss1, hss1⟩ : ∃ l, l = ss.set (x1).toNatClampNeg (x2 + (1 : Int32)) := ⟨_, rfl⟩
      have hlss1 := own_len hlen hss1
      have hsv1 := hsv.set hix.2.2.1 hz1 hss1
      obtain ⟨T102, h102, X102, e102, W102, A102, st102⟩ := stoI X101 hx hZ e101 Ab (j := x1) (own_nneg hix.1) (i := (x1).toNatClampNeg) rfl (by rw [List.length_map]; exact hix.2.1) (g := (mkF m 61 #[.val (.ref a1), .val (.int p2), .val (.int p3), .val (.ref a4), .val (.ref a5), .val (.ref a6), .val (.int i6), .unset] [(.int (x2 + (1 : Int32))), (.int x1), (.ref b1)])) rfl rfl (hb hby d2_61)
      have f103 : Exa Z h102 a1 "com/example/dendrocover/dendrocover/Network" := E1.wr W102
      have f104 : Fld Z h102 a1 "com/example/dendrocover/dendrocover/Network" "roadCount" "I" (.int p3) := F_roadCount.other W102 (Or.inl ne_a1_b1)
      have f105 : Fld Z h102 a1 "com/example/dendrocover/dendrocover/Network" "firstEnd" "[I" (.ref a4) := F_firstEnd.other W102 (Or.inl ne_a1_b1)
      have f106 : Fld Z h102 a1 "com/example/dendrocover/dendrocover/Network" "secondEnd" "[I" (.ref a5) := F_secondEnd.other W102 (Or.inl ne_a1_b1)
      have f107 : Fld Z h102 a1 "com/example/dendrocover/dendrocover/Network" "length" "[I" (.ref a6) := F_length.other W102 (Or.inl ne_a1_b1)
      have f108 : Fld Z h102 a1 "com/example/dendrocover/dendrocover/Network" "incidenceStart" "[I" (.ref b1) := F_incidenceStart.other W102 (Or.inl ne_a1_b1)
      have f109 : Fld Z h102 a1 "com/example/dendrocover/dendrocover/Network" "incident" "[I" .null := F_incident.other W102 (Or.inl ne_a1_b1)
      have f110 : Ax Z h102 a4 .int (F.map Value.int) := A4.other W102 ne_a4_b1
      have f111 : Ax Z h102 a5 .int (S.map Value.int) := A5.other W102 ne_a5_b1
      have f112 : Ax Z h102 b1 .int (ss1.map Value.int) := (by rw [hss1, List.map_set]; exact A102)
      have Z102 : n0 ≤ h102.size := Nat.le_trans Z0 (Keep.of_wr W102).1
      have N102 := Fr.snoc X102 N0 gb
      have K102 : Keep hO h102 [a1] := K0.wr W102 (Or.inr sz_b1)
      refine Done.step st102 ?_
      show Done p e below s _ _ _ (T102.setTop (mkF m 62 #[.val (.ref a1), .val (.int p2), .val (.int p3), .val (.ref a4), .val (.ref a5), .val (.ref a6), .val (.int i6), .unset] []))
      refine Done.step (fun t k => XS.aloadN X102.here hx rfl (hb hby d2_62) rfl rfl k) ?_
      show Done p e below s _ _ _ (T102.setTop (mkF m 63 #[.val (.ref a1), .val (.int p2), .val (.int p3), .val (.ref a4), .val (.ref a5), .val (.ref a6), .val (.int i6), .unset] [(.ref a1)]))
      obtain ⟨T113, X113, e113, st113⟩ := getF X102 hx hZ hown (host := "") (Or.inl (hw _ (List.mem_of_getElem? (i := 26) rfl))) Via.refl e102 f108 (g := (mkF m 63 #[.val (.ref a1), .val (.int p2), .val (.int p3), .val (.ref a4), .val (.ref a5), .val (.ref a6), .val (.int i6), .unset] [(.ref a1)])) rfl rfl (hb hby d2_63)
      refine Done.step st113 ?_
      show Done p e below s _ _ _ (T113.setTop (mkF m 66 #[.val (.ref a1), .val (.int p2), .val (.int p3), .val (.ref a4), .val (.ref a5), .val (.ref a6), .val (.int i6), .unset] [(.ref b1)]))
      refine Done.step (fun t k => XS.aload X113.here hx rfl (hb hby d2_66) rfl rfl k) ?_
      show Done p e below s _ _ _ (T113.setTop (mkF m 68 #[.val (.ref a1), .val (.int p2), .val (.int p3), .val (.ref a4), .val (.ref a5), .val (.ref a6), .val (.int i6), .unset] [(.ref a5), (.ref b1)]))
      refine Done.step (fun t k => XS.iload X113.here hx rfl (hb hby d2_68) rfl k) ?_
      show Done p e below s _ _ _ (T113.setTop (mkF m 70 #[.val (.ref a1), .val (.int p2), .val (.int p3), .val (.ref a4), .val (.ref a5), .val (.ref a6), .val (.int i6), .unset] [(.int i6), (.ref a5), (.ref b1)]))
      obtain ⟨y1, hy1⟩ := own_get (xs := S) hs7.2.2
      have hvy1 : fv S (ii + 1) = y1.toInt := by rw [← own_fv hy1, hs7.2.1]
      have hry1 : 1 ≤ y1.toInt ∧ y1.toInt ≤ (vv : Int) + 1 := by have q := hs (ii + 1) (Nat.le_add_left _ _) hi1; rw [hvy1] at q; exact ⟨q.1, Int.le_trans q.2 (Int.le_add_of_nonneg_right (by decide))⟩
      refine Done.step (ldI X113 hx hZ e113 f111 (j := i6) (x := (.int y1)) (own_nneg hs7.1) (by rw [List.getElem?_map, hy1]; rfl) (g := (mkF m 70 #[.val (.ref a1), .val (.int p2), .val (.int p3), .val (.ref a4), .val (.ref a5), .val (.ref a6), .val (.int i6), .unset] [(.int i6), (.ref a5), (.ref b1)])) rfl rfl (hb hby d2_70)) ?_
      show Done p e below s _ _ _ (T113.setTop (mkF m 71 #[.val (.ref a1), .val (.int p2), .val (.int p3), .val (.ref a4), .val (.ref a5), .val (.ref a6), .val (.int i6), .unset] [(.int y1), (.ref b1)]))
      refine Done.step (fun t k => Jvm.Free.XT.dup2 X113.here hx rfl (hb hby d2_71) rfl rfl rfl k) ?_
      show Done p e below s _ _ _ (T113.setTop (mkF m 72 #[.val (.ref a1), .val (.int p2), .val (.int p3), .val (.ref a4), .val (.ref a5), .val (.ref a6), .val (.int i6), .unset] [(.int y1), (.ref b1), (.int y1), (.ref b1)]))
      have hiy := own_in hry1 hlss1
      obtain ⟨y2, hy2⟩ := own_get (xs := ss1) hiy.2.1
      have hgy : y2.toInt = if y1.toInt = x1.toInt then x2.toInt + 1 else cE (fv F) (fv S) ii y1.toInt := hsv1.at hy2 hiy.2.2.2 hiy.2.2.1
      have hz2 := own_p1 (x := y2) (net_e hii hgx hgy) (by omega)
      refine Done.step (ldI X113 hx hZ e113 f112 (j := y1) (x := (.int y2)) (own_nneg hiy.1) (by rw [List.getElem?_map, hy2]; rfl) (g := (mkF m 72 #[.val (.ref a1), .val (.int p2), .val (.int p3), .val (.ref a4), .val (.ref a5), .val (.ref a6), .val (.int i6), .unset] [(.int y1), (.ref b1), (.int y1), (.ref b1)])) rfl rfl (hb hby d2_72)) ?_
      show Done p e below s _ _ _ (T113.setTop (mkF m 73 #[.val (.ref a1), .val (.int p2), .val (.int p3), .val (.ref a4), .val (.ref a5), .val (.ref a6), .val (.int i6), .unset] [(.int y2), (.int y1), (.ref b1)]))
      refine Done.step (fun t k => XS.iconst X113.here hx rfl (hb hby d2_73) k) ?_
      show Done p e below s _ _ _ (T113.setTop (mkF m 74 #[.val (.ref a1), .val (.int p2), .val (.int p3), .val (.ref a4), .val (.ref a5), .val (.ref a6), .val (.int i6), .unset] [(.int (1 : Int32)), (.int y2), (.int y1), (.ref b1)]))
      refine Done.step (fun t k => XS.iadd X113.here hx rfl (hb hby d2_74) rfl k) ?_
      show Done p e below s _ _ _ (T113.setTop (mkF m 75 #[.val (.ref a1), .val (.int p2), .val (.int p3), .val (.ref a4), .val (.ref a5), .val (.ref a6), .val (.int i6), .unset] [(.int (y2 + (1 : Int32))), (.int y1), (.ref b1)]))
      obtain ⟨ss2, hss2⟩ : ∃ l, l = ss1.set (y1).toNatClampNeg (y2 + (1 : Int32)) := ⟨_, rfl⟩
      have hlss2 := own_len hlss1 hss2
      have hsv2 := hsv1.set hiy.2.2.1 hz2 hss2
      obtain ⟨T114, h114, X114, e114, W114, A114, st114⟩ := stoI X113 hx hZ e113 f112 (j := y1) (own_nneg hiy.1) (i := (y1).toNatClampNeg) rfl (by rw [List.length_map]; exact hiy.2.1) (g := (mkF m 75 #[.val (.ref a1), .val (.int p2), .val (.int p3), .val (.ref a4), .val (.ref a5), .val (.ref a6), .val (.int i6), .unset] [(.int (y2 + (1 : Int32))), (.int y1), (.ref b1)])) rfl rfl (hb hby d2_75)
      have f115 : Exa Z h114 a1 "com/example/dendrocover/dendrocover/Network" := f103.wr W114
      have f116 : Fld Z h114 a1 "com/example/dendrocover/dendrocover/Network" "roadCount" "I" (.int p3) := f104.other W114 (Or.inl ne_a1_b1)
      have f117 : Fld Z h114 a1 "com/example/dendrocover/dendrocover/Network" "firstEnd" "[I" (.ref a4) := f105.other W114 (Or.inl ne_a1_b1)
      have f118 : Fld Z h114 a1 "com/example/dendrocover/dendrocover/Network" "secondEnd" "[I" (.ref a5) := f106.other W114 (Or.inl ne_a1_b1)
      have f119 : Fld Z h114 a1 "com/example/dendrocover/dendrocover/Network" "length" "[I" (.ref a6) := f107.other W114 (Or.inl ne_a1_b1)
      have f120 : Fld Z h114 a1 "com/example/dendrocover/dendrocover/Network" "incidenceStart" "[I" (.ref b1) := f108.other W114 (Or.inl ne_a1_b1)
      have f121 : Fld Z h114 a1 "com/example/dendrocover/dendrocover/Network" "incident" "[I" .null := f109.other W114 (Or.inl ne_a1_b1)
      have f122 : Ax Z h114 a4 .int (F.map Value.int) := f110.other W114 ne_a4_b1
      have f123 : Ax Z h114 a5 .int (S.map Value.int) := f111.other W114 ne_a5_b1
      have f124 : Ax Z h114 b1 .int (ss2.map Value.int) := (by rw [hss2, List.map_set]; exact A114)
      have Z114 : n0 ≤ h114.size := Nat.le_trans Z102 (Keep.of_wr W114).1
      have N114 := Fr.snoc X114 N102 gb
      have K114 : Keep hO h114 [a1] := K102.wr W114 (Or.inr sz_b1)
      refine Done.step st114 ?_
      show Done p e below s _ _ _ (T114.setTop (mkF m 76 #[.val (.ref a1), .val (.int p2), .val (.int p3), .val (.ref a4), .val (.ref a5), .val (.ref a6), .val (.int i6), .unset] []))
      refine Done.step (fun t k => XS.iinc X114.here hx rfl (hb hby d2_76) rfl (l' := #[.val (.ref a1), .val (.int p2), .val (.int p3), .val (.ref a4), .val (.ref a5), .val (.ref a6), .val (.int (i6 + (1 : Int32))), .unset]) rfl k) ?_
      show Done p e below s _ _ _ (T114.setTop (mkF m 79 #[.val (.ref a1), .val (.int p2), .val (.int p3), .val (.ref a4), .val (.ref a5), .val (.ref a6), .val (.int (i6 + (1 : Int32))), .unset] []))
      refine Done.step (fun t k => XS.goto X114.here hx rfl (pc0 := 79) (pc' := 43) rfl (hb hby d2_79) (by decide) (by decide) k) ?_
      show Done p e below s _ _ _ (T114.setTop (mkF m 43 #[.val (.ref a1), .val (.int p2), .val (.int p3), .val (.ref a4), .val (.ref a5), .val (.ref a6), .val (.int (i6 + (1 : Int32))), .unset] []))
      have hsv3 := hsv2.same (fun j hj => net_d hvx1 hvy1 hgx hgy j)
      exact ih T114 _ h114 ss2 (i6 + (1 : Int32)) (ii + 1) X114 N114 Z114 e114 K114 f115 f116 f117 f118 f119 f120 f121 f122 f123 f124 hlss2 hkk (by rw [hi7]; rfl) hi1 hsv3
theorem d2_0 : decode prog_20_method_1_code 0 = .ok (.aload_n 0, 1) := by decide +kernel
theorem d2_1 : decode prog_20_method_1_code 1 = .ok (.invokespecial 1, 3) := by decide +kernel
theorem d2_4 : decode prog_20_method_1_code 4 = .ok (.aload_n 0, 1) := by decide +kernel
theorem d2_5 : decode prog_20_method_1_code 5 = .ok (.iload_n 1, 1) := by decide +kernel
theorem d2_6 : decode prog_20_method_1_code 6 = .ok (.putfield 7, 3) := by decide +kernel
theorem d2_9 : decode prog_20_method_1_code 9 = .ok (.aload_n 0, 1) := by decide +kernel
theorem d2_10 : decode prog_20_method_1_code 10 = .ok (.iload_n 2, 1) := by decide +kernel
theorem d2_11 : decode prog_20_method_1_code 11 = .ok (.putfield 13, 3) := by decide +kernel
theorem d2_14 : decode prog_20_method_1_code 14 = .ok (.aload_n 0, 1) := by decide +kernel
theorem d2_15 : decode prog_20_method_1_code 15 = .ok (.aload_n 3, 1) := by decide +kernel
theorem d2_16 : decode prog_20_method_1_code 16 = .ok (.putfield 16, 3) := by decide +kernel
theorem d2_19 : decode prog_20_method_1_code 19 = .ok (.aload_n 0, 1) := by decide +kernel
theorem d2_20 : decode prog_20_method_1_code 20 = .ok (.aload 4, 2) := by decide +kernel
theorem d2_22 : decode prog_20_method_1_code 22 = .ok (.putfield 20, 3) := by decide +kernel
theorem d2_25 : decode prog_20_method_1_code 25 = .ok (.aload_n 0, 1) := by decide +kernel
theorem d2_26 : decode prog_20_method_1_code 26 = .ok (.aload 5, 2) := by decide +kernel
theorem d2_28 : decode prog_20_method_1_code 28 = .ok (.putfield 23, 3) := by decide +kernel
theorem d2_31 : decode prog_20_method_1_code 31 = .ok (.aload_n 0, 1) := by decide +kernel
theorem d2_32 : decode prog_20_method_1_code 32 = .ok (.iload_n 1, 1) := by decide +kernel
theorem d2_33 : decode prog_20_method_1_code 33 = .ok (.iconst 2, 1) := by decide +kernel
theorem d2_34 : decode prog_20_method_1_code 34 = .ok (.iadd, 1) := by decide +kernel
theorem d2_35 : decode prog_20_method_1_code 35 = .ok (.newarray .int, 2) := by decide +kernel
theorem d2_37 : decode prog_20_method_1_code 37 = .ok (.putfield 26, 3) := by decide +kernel
theorem d2_40 : decode prog_20_method_1_code 40 = .ok (.iconst 1, 1) := by decide +kernel
theorem d2_41 : decode prog_20_method_1_code 41 = .ok (.istore 6, 2) := by decide +kernel
theorem pn_2 : plainName "com/example/dendrocover/dendrocover/Network" = true := by first | (simp [plainName, overriddenIn]; done) | decide +kernel
theorem ef_2 (m : MethodId) (a1 : Addr) (p2 : Int32) (p3 : Int32) (a4 : Addr) (a5 : Addr) (a6 : Addr) : entryFrame m #[(.ref a1), (.int p2), (.int p3), (.ref a4), (.ref a5), (.ref a6)] 8 = mkF m 0 #[.val (.ref a1), .val (.int p2), .val (.int p3), .val (.ref a4), .val (.ref a5), .val (.ref a6), .unset, .unset] [] := by first | (simp [entryFrame, mkF, argsToLocals, Value.category]; done) | rfl
def Qrm2 (Z : State) (a1 : Addr) (p2 : Int32) (p3 : Int32) (a4 : Addr) (a5 : Addr) (a6 : Addr) (F S : List Int32) (nn vv : Nat) (h0 : Heap) (n0 : Nat) : Option Value → Heap → List Loc → Prop := fun v h L => v = none ∧ Fr n0 L ∧ Keep h0 h [a1] ∧ Exa Z h a1 "com/example/dendrocover/dendrocover/Network" ∧ Fld Z h a1 "com/example/dendrocover/dendrocover/Network" "roadCount" "I" (.int p3) ∧ Fld Z h a1 "com/example/dendrocover/dendrocover/Network" "firstEnd" "[I" (.ref a4) ∧ Fld Z h a1 "com/example/dendrocover/dendrocover/Network" "secondEnd" "[I" (.ref a5) ∧ Fld Z h a1 "com/example/dendrocover/dendrocover/Network" "length" "[I" (.ref a6)
set_option maxRecDepth 65536 in
set_option maxHeartbeats 40000000 in
theorem rm2 (l : Launch) (Z : State) (a0 : Array Value) (hw : ∀ d ∈ tables_1, d.before a0 Z = true) (ws : List Jvm.Cond) (a1 : Addr) (p2 : Int32) (p3 : Int32) (a4 : Addr) (a5 : Addr) (a6 : Addr) (F S : List Int32) (nn vv : Nat) (h0 : Heap) (n0 : Nat) (Z0 : n0 ≤ h0.size) (E1 : Exa Z h0 a1 "com/example/dendrocover/dendrocover/Network") (F_vertexCount : Fld Z h0 a1 "com/example/dendrocover/dendrocover/Network" "vertexCount" "I" (.int (0 : Int32))) (F_roadCount : Fld Z h0 a1 "com/example/dendrocover/dendrocover/Network" "roadCount" "I" (.int (0 : Int32))) (F_firstEnd : Fld Z h0 a1 "com/example/dendrocover/dendrocover/Network" "firstEnd" "[I" .null) (F_secondEnd : Fld Z h0 a1 "com/example/dendrocover/dendrocover/Network" "secondEnd" "[I" .null) (F_length : Fld Z h0 a1 "com/example/dendrocover/dendrocover/Network" "length" "[I" .null) (F_incidenceStart : Fld Z h0 a1 "com/example/dendrocover/dendrocover/Network" "incidenceStart" "[I" .null) (F_incident : Fld Z h0 a1 "com/example/dendrocover/dendrocover/Network" "incident" "[I" .null) (A4 : Ax Z h0 a4 .int (F.map Value.int)) (ne_a1_a4 : a1 ≠ a4) (A5 : Ax Z h0 a5 .int (S.map Value.int)) (ne_a1_a5 : a1 ≠ a5) (g1 : n0 ≤ a1) (hv : p2.toInt = vv) (hv2 : vv ≤ 2) (hn : p3.toInt = nn) (hn2 : nn ≤ 3) (hF : nn < F.length) (hS : nn < S.length) (hf : ∀ i, 1 ≤ i → i ≤ nn → 1 ≤ fv F i ∧ fv F i ≤ (vv : Int)) (hs : ∀ i, 1 ≤ i → i ≤ nn → 1 ≤ fv S i ∧ fv S i ≤ (vv : Int)) :
    MetFree l (⟨"com/example/dendrocover/dendrocover/Network", "<init>", "(II[I[I[I)V"⟩ : MethodName) (head1 (Jvm.Cond.code (⟨"com/example/dendrocover/dendrocover/Network", "<init>", "(II[I[I[I)V"⟩ : MethodName) prog_20_method_1_code 8 none :: ws) ({ frames := 1, cells := 2, slots := 10, locals := 12 } : Room)) (fun a U => a = #[(.ref a1), (.int p2), (.int p3), (.ref a4), (.ref a5), (.ref a6)] ∧ Z.Warmed39 U.vm ∧ U.heap = h0) (fun _ _ _ _ _ => True) (fun _ U o U' => ∃ v L, o = .returned v ∧ Qrm2 Z a1 p2 p3 a4 a5 a6 F S nn vv h0 n0 v U'.heap L ∧ FrameEnd U o U' L ({ frames := 1, cells := 2, slots := 10, locals := 12 } : Room).cells ({ frames := 1, cells := 2, slots := 10, locals := 12 } : Room).slots) := by
  refine MetFree.of_bodySF (plainFor_of_name pn_2) hisR ?_
  intro p e s m args below meth c s₁ Bd hml0 hP hK
  obtain ⟨rfl, hZ, hh⟩ := hP
  have hx := Bd.exec
  have hby := Bd.bytes
  have hml : c.maxLocals = 8 := hml0
  have hown : s.vm.findClass "com/example/dendrocover/dendrocover/Network" = some m.cls := findClass_of_methodNamed Bd.named
  have hnm := (name_of_methodNamed Bd.named Bd.method).1
  have hlk : meth.locks = false := BodyLoose.notSynchronized Bd
  have hret := Bd.returns
  have X0 : Stand p l e ({ frames := 1, cells := 2, slots := 10, locals := 12 } : Room) s m #[(.ref a1), (.int p2), (.int p3), (.ref a4), (.ref a5), (.ref a6)] below meth c s₁ [] 0 0 := Stand.of_body Bd
  have e0 : s₁.heap = h0 := by rw [← hh, Bd.state]; rfl
  have N0 := Fr.nil n0
  show Done p e below s (Qrm2 Z a1 p2 p3 a4 a5 a6 F S nn vv h0 n0) ({ frames := 1, cells := 2, slots := 10, locals := 12 } : Room).cells ({ frames := 1, cells := 2, slots := 10, locals := 12 } : Room).slots (s₁.setTop (entryFrame m #[(.ref a1), (.int p2), (.int p3), (.ref a4), (.ref a5), (.ref a6)] 8))
  refine Done.step (fun t k => castTop (ef_2 m a1 p2 p3 a4 a5 a6) k) ?_
  show Done p e below s _ _ _ (s₁.setTop (mkF m 0 #[.val (.ref a1), .val (.int p2), .val (.int p3), .val (.ref a4), .val (.ref a5), .val (.ref a6), .unset, .unset] []))
  refine Done.step (fun t k => XS.aloadN X0.here hx rfl (hb hby d2_0) rfl rfl k) ?_
  show Done p e below s _ _ _ (s₁.setTop (mkF m 1 #[.val (.ref a1), .val (.int p2), .val (.int p3), .val (.ref a4), .val (.ref a5), .val (.ref a6), .unset, .unset] [(.ref a1)]))
  obtain ⟨T101, X101, e101, st101⟩ := initO X0 hx hZ hown (hw _ (List.mem_of_getElem? (i := 13) rfl)) (hw _ (List.mem_of_getElem? (i := 14) rfl)) (hw _ (List.mem_of_getElem? (i := 15) rfl)) e0 (g := (mkF m 1 #[.val (.ref a1), .val (.int p2), .val (.int p3), .val (.ref a4), .val (.ref a5), .val (.ref a6), .unset, .unset] [(.ref a1)])) rfl (by rw [hml]; rfl) rfl (hb hby d2_1) (by decide) (W := 0) (by show 2 * 0 + _ ≤ _; exact Nat.le_of_eq rfl) (by decide)
  refine Done.step st101 ?_
  show Done p e below s _ _ _ (T101.setTop (mkF m 4 #[.val (.ref a1), .val (.int p2), .val (.int p3), .val (.ref a4), .val (.ref a5), .val (.ref a6), .unset, .unset] []))
  refine Done.step (fun t k => XS.aloadN X101.here hx rfl (hb hby d2_4) rfl rfl k) ?_
  show Done p e below s _ _ _ (T101.setTop (mkF m 5 #[.val (.ref a1), .val (.int p2), .val (.int p3), .val (.ref a4), .val (.ref a5), .val (.ref a6), .unset, .unset] [(.ref a1)]))
  refine Done.step (fun t k => XS.iloadN X101.here hx rfl (hb hby d2_5) rfl k) ?_
  show Done p e below s _ _ _ (T101.setTop (mkF m 6 #[.val (.ref a1), .val (.int p2), .val (.int p3), .val (.ref a4), .val (.ref a5), .val (.ref a6), .unset, .unset] [(.int p2), (.ref a1)]))
  obtain ⟨T102, h102, X102, e102, W102, st102⟩ := putF X101 hx hZ hown (host := "") (Or.inl (hw _ (List.mem_of_getElem? (i := 16) rfl))) Via.refl e101 F_vertexCount E1 (Or.inr ⟨(hw _ (List.mem_of_getElem? (i := 17) rfl)), rfl, hnm⟩) (hw _ (List.mem_of_getElem? (i := 8) rfl)) (ty := .int) (by decide) rfl rfl (g := (mkF m 6 #[.val (.ref a1), .val (.int p2), .val (.int p3), .val (.ref a4), .val (.ref a5), .val (.ref a6), .unset, .unset] [(.int p2), (.ref a1)])) rfl rfl (hb hby d2_6)
  have f103 : Exa Z h102 a1 "com/example/dendrocover/dendrocover/Network" := E1.wr W102
  have f104 : Fld Z h102 a1 "com/example/dendrocover/dendrocover/Network" "vertexCount" "I" (.int p2) := F_vertexCount.same W102
  have f105 : Fld Z h102 a1 "com/example/dendrocover/dendrocover/Network" "roadCount" "I" (.int (0 : Int32)) := F_roadCount.other W102 (Or.inr (slot_ne (Or.inr (hw _ (List.mem_of_getElem? (i := 19) rfl))) (Or.inr (hw _ (List.mem_of_getElem? (i := 17) rfl))) (by decide) (t := .int) (t' := .int) (by decide) (by decide)))
  have f106 : Fld Z h102 a1 "com/example/dendrocover/dendrocover/Network" "firstEnd" "[I" .null := F_firstEnd.other W102 (Or.inr (slot_ne (Or.inr (hw _ (List.mem_of_getElem? (i := 21) rfl))) (Or.inr (hw _ (List.mem_of_getElem? (i := 17) rfl))) (by decide) (t := (.array .int)) (t' := .int) (by decide) (by decide)))
  have f107 : Fld Z h102 a1 "com/example/dendrocover/dendrocover/Network" "secondEnd" "[I" .null := F_secondEnd.other W102 (Or.inr (slot_ne (Or.inr (hw _ (List.mem_of_getElem? (i := 23) rfl))) (Or.inr (hw _ (List.mem_of_getElem? (i := 17) rfl))) (by decide) (t := (.array .int)) (t' := .int) (by decide) (by decide)))
  have f108 : Fld Z h102 a1 "com/example/dendrocover/dendrocover/Network" "length" "[I" .null := F_length.other W102 (Or.inr (slot_ne (Or.inr (hw _ (List.mem_of_getElem? (i := 25) rfl))) (Or.inr (hw _ (List.mem_of_getElem? (i := 17) rfl))) (by decide) (t := (.array .int)) (t' := .int) (by decide) (by decide)))
  have f109 : Fld Z h102 a1 "com/example/dendrocover/dendrocover/Network" "incidenceStart" "[I" .null := F_incidenceStart.other W102 (Or.inr (slot_ne (Or.inr (hw _ (List.mem_of_getElem? (i := 27) rfl))) (Or.inr (hw _ (List.mem_of_getElem? (i := 17) rfl))) (by decide) (t := (.array .int)) (t' := .int) (by decide) (by decide)))
  have f110 : Fld Z h102 a1 "com/example/dendrocover/dendrocover/Network" "incident" "[I" .null := F_incident.other W102 (Or.inr (slot_ne (Or.inr (hw _ (List.mem_of_getElem? (i := 29) rfl))) (Or.inr (hw _ (List.mem_of_getElem? (i := 17) rfl))) (by decide) (t := (.array .int)) (t' := .int) (by decide) (by decide)))
  have f111 : Ax Z h102 a4 .int (F.map Value.int) := A4.other W102 (Ne.symm ne_a1_a4)
  have f112 : Ax Z h102 a5 .int (S.map Value.int) := A5.other W102 (Ne.symm ne_a1_a5)
  have Z102 : n0 ≤ h102.size := Nat.le_trans Z0 (Keep.of_wr W102).1
  have N102 := Fr.snoc X102 N0 g1
  have K102 : Keep h0 h102 [a1] := (Keep.refl h0 [a1]).wr W102 (Or.inl (by simp))
  refine Done.step st102 ?_
  show Done p e below s _ _ _ (T102.setTop (mkF m 9 #[.val (.ref a1), .val (.int p2), .val (.int p3), .val (.ref a4), .val (.ref a5), .val (.ref a6), .unset, .unset] []))
  refine Done.step (fun t k => XS.aloadN X102.here hx rfl (hb hby d2_9) rfl rfl k) ?_
  show Done p e below s _ _ _ (T102.setTop (mkF m 10 #[.val (.ref a1), .val (.int p2), .val (.int p3), .val (.ref a4), .val (.ref a5), .val (.ref a6), .unset, .unset] [(.ref a1)]))
  refine Done.step (fun t k => XS.iloadN X102.here hx rfl (hb hby d2_10) rfl k) ?_
  show Done p e below s _ _ _ (T102.setTop (mkF m 11 #[.val (.ref a1), .val (.int p2), .val (.int p3), .val (.ref a4), .val (.ref a5), .val (.ref a6), .unset, .unset] [(.int p3), (.ref a1)]))
  obtain ⟨T113, h113, X113, e113, W113, st113⟩ := putF X102 hx hZ hown (host := "") (Or.inl (hw _ (List.mem_of_getElem? (i := 18) rfl))) Via.refl e102 f105 f103 (Or.inr ⟨(hw _ (List.mem_of_getElem? (i := 19) rfl)), rfl, hnm⟩) (hw _ (List.mem_of_getElem? (i := 8) rfl)) (ty := .int) (by decide) rfl rfl (g := (mkF m 11 #[.val (.ref a1), .val (.int p2), .val (.int p3), .val (.ref a4), .val (.ref a5), .val (.ref a6), .unset, .unset] [(.int p3), (.ref a1)])) rfl rfl (hb hby d2_11)
  have f114 : Exa Z h113 a1 "com/example/dendrocover/dendrocover/Network" := f103.wr W113
  have f115 : Fld Z h113 a1 "com/example/dendrocover/dendrocover/Network" "vertexCount" "I" (.int p2) := f104.other W113 (Or.inr (slot_ne (Or.inr (hw _ (List.mem_of_getElem? (i := 17) rfl))) (Or.inr (hw _ (List.mem_of_getElem? (i := 19) rfl))) (by decide) (t := .int) (t' := .int) (by decide) (by decide)))
  have f116 : Fld Z h113 a1 "com/example/dendrocover/dendrocover/Network" "roadCount" "I" (.int p3) := f105.same W113
  have f117 : Fld Z h113 a1 "com/example/dendrocover/dendrocover/Network" "firstEnd" "[I" .null := f106.other W113 (Or.inr (slot_ne (Or.inr (hw _ (List.mem_of_getElem? (i := 21) rfl))) (Or.inr (hw _ (List.mem_of_getElem? (i := 19) rfl))) (by decide) (t := (.array .int)) (t' := .int) (by decide) (by decide)))
  have f118 : Fld Z h113 a1 "com/example/dendrocover/dendrocover/Network" "secondEnd" "[I" .null := f107.other W113 (Or.inr (slot_ne (Or.inr (hw _ (List.mem_of_getElem? (i := 23) rfl))) (Or.inr (hw _ (List.mem_of_getElem? (i := 19) rfl))) (by decide) (t := (.array .int)) (t' := .int) (by decide) (by decide)))
  have f119 : Fld Z h113 a1 "com/example/dendrocover/dendrocover/Network" "length" "[I" .null := f108.other W113 (Or.inr (slot_ne (Or.inr (hw _ (List.mem_of_getElem? (i := 25) rfl))) (Or.inr (hw _ (List.mem_of_getElem? (i := 19) rfl))) (by decide) (t := (.array .int)) (t' := .int) (by decide) (by decide)))
  have f120 : Fld Z h113 a1 "com/example/dendrocover/dendrocover/Network" "incidenceStart" "[I" .null := f109.other W113 (Or.inr (slot_ne (Or.inr (hw _ (List.mem_of_getElem? (i := 27) rfl))) (Or.inr (hw _ (List.mem_of_getElem? (i := 19) rfl))) (by decide) (t := (.array .int)) (t' := .int) (by decide) (by decide)))
  have f121 : Fld Z h113 a1 "com/example/dendrocover/dendrocover/Network" "incident" "[I" .null := f110.other W113 (Or.inr (slot_ne (Or.inr (hw _ (List.mem_of_getElem? (i := 29) rfl))) (Or.inr (hw _ (List.mem_of_getElem? (i := 19) rfl))) (by decide) (t := (.array .int)) (t' := .int) (by decide) (by decide)))
  have f122 : Ax Z h113 a4 .int (F.map Value.int) := f111.other W113 (Ne.symm ne_a1_a4)
  have f123 : Ax Z h113 a5 .int (S.map Value.int) := f112.other W113 (Ne.symm ne_a1_a5)
  have Z113 : n0 ≤ h113.size := Nat.le_trans Z102 (Keep.of_wr W113).1
  have N113 := Fr.snoc X113 N102 g1
  have K113 : Keep h0 h113 [a1] := K102.wr W113 (Or.inl (by simp))
  refine Done.step st113 ?_
  show Done p e below s _ _ _ (T113.setTop (mkF m 14 #[.val (.ref a1), .val (.int p2), .val (.int p3), .val (.ref a4), .val (.ref a5), .val (.ref a6), .unset, .unset] []))
  refine Done.step (fun t k => XS.aloadN X113.here hx rfl (hb hby d2_14) rfl rfl k) ?_
  show Done p e below s _ _ _ (T113.setTop (mkF m 15 #[.val (.ref a1), .val (.int p2), .val (.int p3), .val (.ref a4), .val (.ref a5), .val (.ref a6), .unset, .unset] [(.ref a1)]))
  refine Done.step (fun t k => XS.aloadN X113.here hx rfl (hb hby d2_15) rfl rfl k) ?_
  show Done p e below s _ _ _ (T113.setTop (mkF m 16 #[.val (.ref a1), .val (.int p2), .val (.int p3), .val (.ref a4), .val (.ref a5), .val (.ref a6), .unset, .unset] [(.ref a4), (.ref a1)]))
  obtain ⟨T124, h124, X124, e124, W124, st124⟩ := putF X113 hx hZ hown (host := "") (Or.inl (hw _ (List.mem_of_getElem? (i := 20) rfl))) Via.refl e113 f117 f114 (Or.inr ⟨(hw _ (List.mem_of_getElem? (i := 21) rfl)), rfl, hnm⟩) (hw _ (List.mem_of_getElem? (i := 8) rfl)) (ty := (.array .int)) (by decide) rfl rfl (g := (mkF m 16 #[.val (.ref a1), .val (.int p2), .val (.int p3), .val (.ref a4), .val (.ref a5), .val (.ref a6), .unset, .unset] [(.ref a4), (.ref a1)])) rfl rfl (hb hby d2_16)
  have f125 : Exa Z h124 a1 "com/example/dendrocover/dendrocover/Network" := f114.wr W124
  have f126 : Fld Z h124 a1 "com/example/dendrocover/dendrocover/Network" "vertexCount" "I" (.int p2) := f115.other W124 (Or.inr (slot_ne (Or.inr (hw _ (List.mem_of_getElem? (i := 17) rfl))) (Or.inr (hw _ (List.mem_of_getElem? (i := 21) rfl))) (by decide) (t := .int) (t' := (.array .int)) (by decide) (by decide)))
  have f127 : Fld Z h124 a1 "com/example/dendrocover/dendrocover/Network" "roadCount" "I" (.int p3) := f116.other W124 (Or.inr (slot_ne (Or.inr (hw _ (List.mem_of_getElem? (i := 19) rfl))) (Or.inr (hw _ (List.mem_of_getElem? (i := 21) rfl))) (by decide) (t := .int) (t' := (.array .int)) (by decide) (by decide)))
  have f128 : Fld Z h124 a1 "com/example/dendrocover/dendrocover/Network" "firstEnd" "[I" (.ref a4) := f117.same W124
  have f129 : Fld Z h124 a1 "com/example/dendrocover/dendrocover/Network" "secondEnd" "[I" .null := f118.other W124 (Or.inr (slot_ne (Or.inr (hw _ (List.mem_of_getElem? (i := 23) rfl))) (Or.inr (hw _ (List.mem_of_getElem? (i := 21) rfl))) (by decide) (t := (.array .int)) (t' := (.array .int)) (by decide) (by decide)))
  have f130 : Fld Z h124 a1 "com/example/dendrocover/dendrocover/Network" "length" "[I" .null := f119.other W124 (Or.inr (slot_ne (Or.inr (hw _ (List.mem_of_getElem? (i := 25) rfl))) (Or.inr (hw _ (List.mem_of_getElem? (i := 21) rfl))) (by decide) (t := (.array .int)) (t' := (.array .int)) (by decide) (by decide)))
  have f131 : Fld Z h124 a1 "com/example/dendrocover/dendrocover/Network" "incidenceStart" "[I" .null := f120.other W124 (Or.inr (slot_ne (Or.inr (hw _ (List.mem_of_getElem? (i := 27) rfl))) (Or.inr (hw _ (List.mem_of_getElem? (i := 21) rfl))) (by decide) (t := (.array .int)) (t' := (.array .int)) (by decide) (by decide)))
  have f132 : Fld Z h124 a1 "com/example/dendrocover/dendrocover/Network" "incident" "[I" .null := f121.other W124 (Or.inr (slot_ne (Or.inr (hw _ (List.mem_of_getElem? (i := 29) rfl))) (Or.inr (hw _ (List.mem_of_getElem? (i := 21) rfl))) (by decide) (t := (.array .int)) (t' := (.array .int)) (by decide) (by decide)))
  have f133 : Ax Z h124 a4 .int (F.map Value.int) := f122.other W124 (Ne.symm ne_a1_a4)
  have f134 : Ax Z h124 a5 .int (S.map Value.int) := f123.other W124 (Ne.symm ne_a1_a5)
  have Z124 : n0 ≤ h124.size := Nat.le_trans Z113 (Keep.of_wr W124).1
  have N124 := Fr.snoc X124 N113 g1
  have K124 : Keep h0 h124 [a1] := K113.wr W124 (Or.inl (by simp))
  refine Done.step st124 ?_
  show Done p e below s _ _ _ (T124.setTop (mkF m 19 #[.val (.ref a1), .val (.int p2), .val (.int p3), .val (.ref a4), .val (.ref a5), .val (.ref a6), .unset, .unset] []))
  refine Done.step (fun t k => XS.aloadN X124.here hx rfl (hb hby d2_19) rfl rfl k) ?_
  show Done p e below s _ _ _ (T124.setTop (mkF m 20 #[.val (.ref a1), .val (.int p2), .val (.int p3), .val (.ref a4), .val (.ref a5), .val (.ref a6), .unset, .unset] [(.ref a1)]))
  refine Done.step (fun t k => XS.aload X124.here hx rfl (hb hby d2_20) rfl rfl k) ?_
  show Done p e below s _ _ _ (T124.setTop (mkF m 22 #[.val (.ref a1), .val (.int p2), .val (.int p3), .val (.ref a4), .val (.ref a5), .val (.ref a6), .unset, .unset] [(.ref a5), (.ref a1)]))
  obtain ⟨T135, h135, X135, e135, W135, st135⟩ := putF X124 hx hZ hown (host := "") (Or.inl (hw _ (List.mem_of_getElem? (i := 22) rfl))) Via.refl e124 f129 f125 (Or.inr ⟨(hw _ (List.mem_of_getElem? (i := 23) rfl)), rfl, hnm⟩) (hw _ (List.mem_of_getElem? (i := 8) rfl)) (ty := (.array .int)) (by decide) rfl rfl (g := (mkF m 22 #[.val (.ref a1), .val (.int p2), .val (.int p3), .val (.ref a4), .val (.ref a5), .val (.ref a6), .unset, .unset] [(.ref a5), (.ref a1)])) rfl rfl (hb hby d2_22)
  have f136 : Exa Z h135 a1 "com/example/dendrocover/dendrocover/Network" := f125.wr W135
  have f137 : Fld Z h135 a1 "com/example/dendrocover/dendrocover/Network" "vertexCount" "I" (.int p2) := f126.other W135 (Or.inr (slot_ne (Or.inr (hw _ (List.mem_of_getElem? (i := 17) rfl))) (Or.inr (hw _ (List.mem_of_getElem? (i := 23) rfl))) (by decide) (t := .int) (t' := (.array .int)) (by decide) (by decide)))
  have f138 : Fld Z h135 a1 "com/example/dendrocover/dendrocover/Network" "roadCount" "I" (.int p3) := f127.other W135 (Or.inr (slot_ne (Or.inr (hw _ (List.mem_of_getElem? (i := 19) rfl))) (Or.inr (hw _ (List.mem_of_getElem? (i := 23) rfl))) (by decide) (t := .int) (t' := (.array .int)) (by decide) (by decide)))
  have f139 : Fld Z h135 a1 "com/example/dendrocover/dendrocover/Network" "firstEnd" "[I" (.ref a4) := f128.other W135 (Or.inr (slot_ne (Or.inr (hw _ (List.mem_of_getElem? (i := 21) rfl))) (Or.inr (hw _ (List.mem_of_getElem? (i := 23) rfl))) (by decide) (t := (.array .int)) (t' := (.array .int)) (by decide) (by decide)))
  have f140 : Fld Z h135 a1 "com/example/dendrocover/dendrocover/Network" "secondEnd" "[I" (.ref a5) := f129.same W135
  have f141 : Fld Z h135 a1 "com/example/dendrocover/dendrocover/Network" "length" "[I" .null := f130.other W135 (Or.inr (slot_ne (Or.inr (hw _ (List.mem_of_getElem? (i := 25) rfl))) (Or.inr (hw _ (List.mem_of_getElem? (i := 23) rfl))) (by decide) (t := (.array .int)) (t' := (.array .int)) (by decide) (by decide)))
  have f142 : Fld Z h135 a1 "com/example/dendrocover/dendrocover/Network" "incidenceStart" "[I" .null := f131.other W135 (Or.inr (slot_ne (Or.inr (hw _ (List.mem_of_getElem? (i := 27) rfl))) (Or.inr (hw _ (List.mem_of_getElem? (i := 23) rfl))) (by decide) (t := (.array .int)) (t' := (.array .int)) (by decide) (by decide)))
  have f143 : Fld Z h135 a1 "com/example/dendrocover/dendrocover/Network" "incident" "[I" .null := f132.other W135 (Or.inr (slot_ne (Or.inr (hw _ (List.mem_of_getElem? (i := 29) rfl))) (Or.inr (hw _ (List.mem_of_getElem? (i := 23) rfl))) (by decide) (t := (.array .int)) (t' := (.array .int)) (by decide) (by decide)))
  have f144 : Ax Z h135 a4 .int (F.map Value.int) := f133.other W135 (Ne.symm ne_a1_a4)
  have f145 : Ax Z h135 a5 .int (S.map Value.int) := f134.other W135 (Ne.symm ne_a1_a5)
  have Z135 : n0 ≤ h135.size := Nat.le_trans Z124 (Keep.of_wr W135).1
  have N135 := Fr.snoc X135 N124 g1
  have K135 : Keep h0 h135 [a1] := K124.wr W135 (Or.inl (by simp))
  refine Done.step st135 ?_
  show Done p e below s _ _ _ (T135.setTop (mkF m 25 #[.val (.ref a1), .val (.int p2), .val (.int p3), .val (.ref a4), .val (.ref a5), .val (.ref a6), .unset, .unset] []))
  refine Done.step (fun t k => XS.aloadN X135.here hx rfl (hb hby d2_25) rfl rfl k) ?_
  show Done p e below s _ _ _ (T135.setTop (mkF m 26 #[.val (.ref a1), .val (.int p2), .val (.int p3), .val (.ref a4), .val (.ref a5), .val (.ref a6), .unset, .unset] [(.ref a1)]))
  refine Done.step (fun t k => XS.aload X135.here hx rfl (hb hby d2_26) rfl rfl k) ?_
  show Done p e below s _ _ _ (T135.setTop (mkF m 28 #[.val (.ref a1), .val (.int p2), .val (.int p3), .val (.ref a4), .val (.ref a5), .val (.ref a6), .unset, .unset] [(.ref a6), (.ref a1)]))
  obtain ⟨T146, h146, X146, e146, W146, st146⟩ := putF X135 hx hZ hown (host := "") (Or.inl (hw _ (List.mem_of_getElem? (i := 24) rfl))) Via.refl e135 f141 f136 (Or.inr ⟨(hw _ (List.mem_of_getElem? (i := 25) rfl)), rfl, hnm⟩) (hw _ (List.mem_of_getElem? (i := 8) rfl)) (ty := (.array .int)) (by decide) rfl rfl (g := (mkF m 28 #[.val (.ref a1), .val (.int p2), .val (.int p3), .val (.ref a4), .val (.ref a5), .val (.ref a6), .unset, .unset] [(.ref a6), (.ref a1)])) rfl rfl (hb hby d2_28)
  have f147 : Exa Z h146 a1 "com/example/dendrocover/dendrocover/Network" := f136.wr W146
  have f148 : Fld Z h146 a1 "com/example/dendrocover/dendrocover/Network" "vertexCount" "I" (.int p2) := f137.other W146 (Or.inr (slot_ne (Or.inr (hw _ (List.mem_of_getElem? (i := 17) rfl))) (Or.inr (hw _ (List.mem_of_getElem? (i := 25) rfl))) (by decide) (t := .int) (t' := (.array .int)) (by decide) (by decide)))
  have f149 : Fld Z h146 a1 "com/example/dendrocover/dendrocover/Network" "roadCount" "I" (.int p3) := f138.other W146 (Or.inr (slot_ne (Or.inr (hw _ (List.mem_of_getElem? (i := 19) rfl))) (Or.inr (hw _ (List.mem_of_getElem? (i := 25) rfl))) (by decide) (t := .int) (t' := (.array .int)) (by decide) (by decide)))
  have f150 : Fld Z h146 a1 "com/example/dendrocover/dendrocover/Network" "firstEnd" "[I" (.ref a4) := f139.other W146 (Or.inr (slot_ne (Or.inr (hw _ (List.mem_of_getElem? (i := 21) rfl))) (Or.inr (hw _ (List.mem_of_getElem? (i := 25) rfl))) (by decide) (t := (.array .int)) (t' := (.array .int)) (by decide) (by decide)))
  have f151 : Fld Z h146 a1 "com/example/dendrocover/dendrocover/Network" "secondEnd" "[I" (.ref a5) := f140.other W146 (Or.inr (slot_ne (Or.inr (hw _ (List.mem_of_getElem? (i := 23) rfl))) (Or.inr (hw _ (List.mem_of_getElem? (i := 25) rfl))) (by decide) (t := (.array .int)) (t' := (.array .int)) (by decide) (by decide)))
  have f152 : Fld Z h146 a1 "com/example/dendrocover/dendrocover/Network" "length" "[I" (.ref a6) := f141.same W146
  have f153 : Fld Z h146 a1 "com/example/dendrocover/dendrocover/Network" "incidenceStart" "[I" .null := f142.other W146 (Or.inr (slot_ne (Or.inr (hw _ (List.mem_of_getElem? (i := 27) rfl))) (Or.inr (hw _ (List.mem_of_getElem? (i := 25) rfl))) (by decide) (t := (.array .int)) (t' := (.array .int)) (by decide) (by decide)))
  have f154 : Fld Z h146 a1 "com/example/dendrocover/dendrocover/Network" "incident" "[I" .null := f143.other W146 (Or.inr (slot_ne (Or.inr (hw _ (List.mem_of_getElem? (i := 29) rfl))) (Or.inr (hw _ (List.mem_of_getElem? (i := 25) rfl))) (by decide) (t := (.array .int)) (t' := (.array .int)) (by decide) (by decide)))
  have f155 : Ax Z h146 a4 .int (F.map Value.int) := f144.other W146 (Ne.symm ne_a1_a4)
  have f156 : Ax Z h146 a5 .int (S.map Value.int) := f145.other W146 (Ne.symm ne_a1_a5)
  have Z146 : n0 ≤ h146.size := Nat.le_trans Z135 (Keep.of_wr W146).1
  have N146 := Fr.snoc X146 N135 g1
  have K146 : Keep h0 h146 [a1] := K135.wr W146 (Or.inl (by simp))
  refine Done.step st146 ?_
  show Done p e below s _ _ _ (T146.setTop (mkF m 31 #[.val (.ref a1), .val (.int p2), .val (.int p3), .val (.ref a4), .val (.ref a5), .val (.ref a6), .unset, .unset] []))
  refine Done.step (fun t k => XS.aloadN X146.here hx rfl (hb hby d2_31) rfl rfl k) ?_
  show Done p e below s _ _ _ (T146.setTop (mkF m 32 #[.val (.ref a1), .val (.int p2), .val (.int p3), .val (.ref a4), .val (.ref a5), .val (.ref a6), .unset, .unset] [(.ref a1)]))
  refine Done.step (fun t k => XS.iloadN X146.here hx rfl (hb hby d2_32) rfl k) ?_
  show Done p e below s _ _ _ (T146.setTop (mkF m 33 #[.val (.ref a1), .val (.int p2), .val (.int p3), .val (.ref a4), .val (.ref a5), .val (.ref a6), .unset, .unset] [(.int p2), (.ref a1)]))
  refine Done.step (fun t k => XS.iconst X146.here hx rfl (hb hby d2_33) k) ?_
  show Done p e below s _ _ _ (T146.setTop (mkF m 34 #[.val (.ref a1), .val (.int p2), .val (.int p3), .val (.ref a4), .val (.ref a5), .val (.ref a6), .unset, .unset] [(.int (2 : Int32)), (.int p2), (.ref a1)]))
  refine Done.step (fun t k => XS.iadd X146.here hx rfl (hb hby d2_34) rfl k) ?_
  show Done p e below s _ _ _ (T146.setTop (mkF m 35 #[.val (.ref a1), .val (.int p2), .val (.int p3), .val (.ref a4), .val (.ref a5), .val (.ref a6), .unset, .unset] [(.int (p2 + (2 : Int32))), (.ref a1)]))
  have hp2 : (p2 + (2 : Int32)).toInt = vv + 2 := by rw [own_plus (d := 2) rfl (by omega) (by omega), hv]
  have hpc := own_clamp (x := p2 + (2 : Int32)) (by omega)
  obtain ⟨T157, h157, k157, X157, e157, E157, A157, B157, st157⟩ := newPE X146 hx hZ (hw _ (List.mem_of_getElem? (i := 5) rfl)) e146 (g := (mkF m 35 #[.val (.ref a1), .val (.int p2), .val (.int p3), .val (.ref a4), .val (.ref a5), .val (.ref a6), .unset, .unset] [(.int (p2 + (2 : Int32))), (.ref a1)])) rfl (hb hby d2_35) rfl (own_nneg (by omega)) (cap := 4) (by omega) (by decide) (by decide) (by decide) (ad := "[I") (by decide)
  obtain ⟨b157, gq157⟩ : ∃ z, z = h146.size := ⟨_, rfl⟩
  rw [← gq157] at A157 B157 st157
  have ne158 : a1 ≠ b157 := Nat.ne_of_lt (Nat.lt_of_lt_of_le f147.lt (Nat.le_of_eq gq157.symm))
  have ne159 : a4 ≠ b157 := Nat.ne_of_lt (Nat.lt_of_lt_of_le f155.lt (Nat.le_of_eq gq157.symm))
  have ne160 : a5 ≠ b157 := Nat.ne_of_lt (Nat.lt_of_lt_of_le f156.lt (Nat.le_of_eq gq157.symm))
  have f161 : Exa Z h157 a1 "com/example/dendrocover/dendrocover/Network" := f147.ext E157
  have f162 : Fld Z h157 a1 "com/example/dendrocover/dendrocover/Network" "vertexCount" "I" (.int p2) := f148.ext E157
  have f163 : Fld Z h157 a1 "com/example/dendrocover/dendrocover/Network" "roadCount" "I" (.int p3) := f149.ext E157
  have f164 : Fld Z h157 a1 "com/example/dendrocover/dendrocover/Network" "firstEnd" "[I" (.ref a4) := f150.ext E157
  have f165 : Fld Z h157 a1 "com/example/dendrocover/dendrocover/Network" "secondEnd" "[I" (.ref a5) := f151.ext E157
  have f166 : Fld Z h157 a1 "com/example/dendrocover/dendrocover/Network" "length" "[I" (.ref a6) := f152.ext E157
  have f167 : Fld Z h157 a1 "com/example/dendrocover/dendrocover/Network" "incidenceStart" "[I" .null := f153.ext E157
  have f168 : Fld Z h157 a1 "com/example/dendrocover/dendrocover/Network" "incident" "[I" .null := f154.ext E157
  have f169 : Ax Z h157 a4 .int (F.map Value.int) := f155.ext E157
  have f170 : Ax Z h157 a5 .int (S.map Value.int) := f156.ext E157
  have g_b157 : n0 ≤ b157 := Nat.le_trans Z146 (Nat.le_of_eq gq157.symm)
  have sz_b157 : h0.size ≤ b157 := Nat.le_trans K146.1 (Nat.le_of_eq gq157.symm)
  have Z157 : n0 ≤ h157.size := Nat.le_trans Z146 E157.1
  have K157 : Keep h0 h157 [a1] := K146.ext E157
  have f171 : Ax Z h157 b157 .int (List.replicate (vv + 2) (.int (0 : Int32))) := Ax.new (ty := .int) (i := (vv + 2)) A157 (by omega)
  refine Done.step st157 ?_
  show Done p e below s _ _ _ (T157.setTop (mkF m 37 #[.val (.ref a1), .val (.int p2), .val (.int p3), .val (.ref a4), .val (.ref a5), .val (.ref a6), .unset, .unset] [(.ref b157), (.ref a1)]))
  obtain ⟨T172, h172, X172, e172, W172, st172⟩ := putF X157 hx hZ hown (host := "") (Or.inl (hw _ (List.mem_of_getElem? (i := 26) rfl))) Via.refl e157 f167 f161 (Or.inr ⟨(hw _ (List.mem_of_getElem? (i := 27) rfl)), rfl, hnm⟩) (hw _ (List.mem_of_getElem? (i := 8) rfl)) (ty := (.array .int)) (by decide) rfl rfl (g := (mkF m 37 #[.val (.ref a1), .val (.int p2), .val (.int p3), .val (.ref a4), .val (.ref a5), .val (.ref a6), .unset, .unset] [(.ref b157), (.ref a1)])) rfl rfl (hb hby d2_37)
  have f173 : Exa Z h172 a1 "com/example/dendrocover/dendrocover/Network" := f161.wr W172
  have f174 : Fld Z h172 a1 "com/example/dendrocover/dendrocover/Network" "vertexCount" "I" (.int p2) := f162.other W172 (Or.inr (slot_ne (Or.inr (hw _ (List.mem_of_getElem? (i := 17) rfl))) (Or.inr (hw _ (List.mem_of_getElem? (i := 27) rfl))) (by decide) (t := .int) (t' := (.array .int)) (by decide) (by decide)))
  have f175 : Fld Z h172 a1 "com/example/dendrocover/dendrocover/Network" "roadCount" "I" (.int p3) := f163.other W172 (Or.inr (slot_ne (Or.inr (hw _ (List.mem_of_getElem? (i := 19) rfl))) (Or.inr (hw _ (List.mem_of_getElem? (i := 27) rfl))) (by decide) (t := .int) (t' := (.array .int)) (by decide) (by decide)))
  have f176 : Fld Z h172 a1 "com/example/dendrocover/dendrocover/Network" "firstEnd" "[I" (.ref a4) := f164.other W172 (Or.inr (slot_ne (Or.inr (hw _ (List.mem_of_getElem? (i := 21) rfl))) (Or.inr (hw _ (List.mem_of_getElem? (i := 27) rfl))) (by decide) (t := (.array .int)) (t' := (.array .int)) (by decide) (by decide)))
  have f177 : Fld Z h172 a1 "com/example/dendrocover/dendrocover/Network" "secondEnd" "[I" (.ref a5) := f165.other W172 (Or.inr (slot_ne (Or.inr (hw _ (List.mem_of_getElem? (i := 23) rfl))) (Or.inr (hw _ (List.mem_of_getElem? (i := 27) rfl))) (by decide) (t := (.array .int)) (t' := (.array .int)) (by decide) (by decide)))
  have f178 : Fld Z h172 a1 "com/example/dendrocover/dendrocover/Network" "length" "[I" (.ref a6) := f166.other W172 (Or.inr (slot_ne (Or.inr (hw _ (List.mem_of_getElem? (i := 25) rfl))) (Or.inr (hw _ (List.mem_of_getElem? (i := 27) rfl))) (by decide) (t := (.array .int)) (t' := (.array .int)) (by decide) (by decide)))
  have f179 : Fld Z h172 a1 "com/example/dendrocover/dendrocover/Network" "incidenceStart" "[I" (.ref b157) := f167.same W172
  have f180 : Fld Z h172 a1 "com/example/dendrocover/dendrocover/Network" "incident" "[I" .null := f168.other W172 (Or.inr (slot_ne (Or.inr (hw _ (List.mem_of_getElem? (i := 29) rfl))) (Or.inr (hw _ (List.mem_of_getElem? (i := 27) rfl))) (by decide) (t := (.array .int)) (t' := (.array .int)) (by decide) (by decide)))
  have f181 : Ax Z h172 a4 .int (F.map Value.int) := f169.other W172 (Ne.symm ne_a1_a4)
  have f182 : Ax Z h172 a5 .int (S.map Value.int) := f170.other W172 (Ne.symm ne_a1_a5)
  have f183 : Exa Z h172 b157 "[I" := B157.wr W172
  have f184 : Ax Z h172 b157 .int (List.replicate (vv + 2) (.int (0 : Int32))) := f171.other W172 (Ne.symm ne158)
  have Z172 : n0 ≤ h172.size := Nat.le_trans Z157 (Keep.of_wr W172).1
  have N172 := Fr.snoc X172 N146 g1
  have K172 : Keep h0 h172 [a1] := K157.wr W172 (Or.inl (by simp))
  refine Done.step st172 ?_
  show Done p e below s _ _ _ (T172.setTop (mkF m 40 #[.val (.ref a1), .val (.int p2), .val (.int p3), .val (.ref a4), .val (.ref a5), .val (.ref a6), .unset, .unset] []))
  refine Done.step (fun t k => XS.iconst X172.here hx rfl (hb hby d2_40) k) ?_
  show Done p e below s _ _ _ (T172.setTop (mkF m 41 #[.val (.ref a1), .val (.int p2), .val (.int p3), .val (.ref a4), .val (.ref a5), .val (.ref a6), .unset, .unset] [(.int (1 : Int32))]))
  refine Done.step (fun t k => XS.istore X172.here hx rfl (hb hby d2_41) rfl (l' := #[.val (.ref a1), .val (.int p2), .val (.int p3), .val (.ref a4), .val (.ref a5), .val (.ref a6), .val (.int (1 : Int32)), .unset]) rfl k) ?_
  show Done p e below s _ _ _ (T172.setTop (mkF m 43 #[.val (.ref a1), .val (.int p2), .val (.int p3), .val (.ref a4), .val (.ref a5), .val (.ref a6), .val (.int (1 : Int32)), .unset] []))
  have hsv : SV (List.replicate (vv + 2) (0 : Int32)) (fun j => cE (fv F) (fv S) 0 j) := fun j y hy hj => by
    rw [List.getElem?_replicate] at hy; split at hy
    · cases hy; rfl
    · cases hy
  exact lp43 a1 p2 p3 a4 a5 a6 F S nn vv b157 hx hZ hw hby hml hown hlk hret hnm g1 hv hv2 hn hn2 hF hS hf hs g_b157 sz_b157 ne_a1_a4 ne_a1_a5 ne158 ne159 ne160 (nn + 1)  T172 _ h172 (List.replicate (vv + 2) (0 : Int32)) (1 : Int32) 0 X172 N172 Z172 e172 K172 f173 f175 f176 f177 f178 f179 f180 f181 f182 (own_rep f184) (List.length_replicate) (by omega) rfl (Nat.zero_le _) hsv
theorem d1_0 : decode method_2_code 0 = .ok (.iload_n 0, 1) := by decide +kernel
theorem d1_1 : decode method_2_code 1 = .ok (.ldc 7, 2) := by decide +kernel
theorem d1_3 : decode method_2_code 3 = .ok (.iand, 1) := by decide +kernel
theorem d1_4 : decode method_2_code 4 = .ok (.istore_n 1, 1) := by decide +kernel
theorem d1_5 : decode method_2_code 5 = .ok (.iload_n 1, 1) := by decide +kernel
theorem d1_6 : decode method_2_code 6 = .ok (.ifCond .ne 5, 3) := by decide +kernel
theorem d1_9 : decode method_2_code 9 = .ok (.iconst 1, 1) := by decide +kernel
theorem d1_10 : decode method_2_code 10 = .ok (.ireturn, 1) := by decide +kernel
theorem d1_11 : decode method_2_code 11 = .ok (.iload_n 1, 1) := by decide +kernel
theorem d1_12 : decode method_2_code 12 = .ok (.ireturn, 1) := by decide +kernel
def F1 (p1 : Int32) : Int32 := (if (p1 &&& (2147483647 : Int32)) = (0 : Int32) then (1 : Int32)
  else (p1 &&& (2147483647 : Int32)))
theorem pn_1 : plainName "com/example/dendrocover/dendrocover/NetworkTotalLengthPinLaw" = true := by first | (simp [plainName, overriddenIn]; done) | decide +kernel
theorem ef_1 (m : MethodId) (p1 : Int32) : entryFrame m #[(.int p1)] 2 = mkF m 0 #[.val (.int p1), .unset] [] := by first | (simp [entryFrame, mkF, argsToLocals, Value.category]; done) | rfl
def Qrm1 (Z : State) (p1 : Int32) (h0 : Heap) (n0 : Nat) : Option Value → Heap → List Loc → Prop := fun v h L => v = some (.int (F1 p1)) ∧ Fr n0 L ∧ h = h0
set_option maxRecDepth 65536 in
set_option maxHeartbeats 40000000 in
theorem rm1 (l : Launch) (Z : State) (a0 : Array Value) (hw : ∀ d ∈ tables_1, d.before a0 Z = true) (ws : List Jvm.Cond) (p1 : Int32) (h0 : Heap) (n0 : Nat) (Z0 : n0 ≤ h0.size) :
    MetFree l (⟨"com/example/dendrocover/dendrocover/NetworkTotalLengthPinLaw", "positive", "(I)I"⟩ : MethodName) (head1 (Jvm.Cond.code (⟨"com/example/dendrocover/dendrocover/NetworkTotalLengthPinLaw", "positive", "(I)I"⟩ : MethodName) method_2_code 2 (some .int) :: ws) ({ frames := 0, cells := 0, slots := 0, locals := 0 } : Room)) (fun a U => a = #[(.int p1)] ∧ Z.Warmed39 U.vm ∧ U.heap = h0) (fun _ _ _ _ _ => True) (fun _ U o U' => ∃ v L, o = .returned v ∧ Qrm1 Z p1 h0 n0 v U'.heap L ∧ FrameEnd U o U' L ({ frames := 0, cells := 0, slots := 0, locals := 0 } : Room).cells ({ frames := 0, cells := 0, slots := 0, locals := 0 } : Room).slots) := by
  refine MetFree.of_bodySF (plainFor_of_name pn_1) hisR ?_
  intro p e s m args below meth c s₁ Bd hml0 hP hK
  obtain ⟨rfl, hZ, hh⟩ := hP
  have hx := Bd.exec
  have hby := Bd.bytes
  have hml : c.maxLocals = 2 := hml0
  have hown : s.vm.findClass "com/example/dendrocover/dendrocover/NetworkTotalLengthPinLaw" = some m.cls := findClass_of_methodNamed Bd.named
  have hnm := (name_of_methodNamed Bd.named Bd.method).1
  have hlk : meth.locks = false := BodyLoose.notSynchronized Bd
  have hret := Bd.returns
  have X0 : Stand p l e ({ frames := 0, cells := 0, slots := 0, locals := 0 } : Room) s m #[(.int p1)] below meth c s₁ [] 0 0 := Stand.of_body Bd
  have e0 : s₁.heap = h0 := by rw [← hh, Bd.state]; rfl
  have N0 := Fr.nil n0
  show Done p e below s (Qrm1 Z p1 h0 n0) ({ frames := 0, cells := 0, slots := 0, locals := 0 } : Room).cells ({ frames := 0, cells := 0, slots := 0, locals := 0 } : Room).slots (s₁.setTop (entryFrame m #[(.int p1)] 2))
  refine Done.step (fun t k => castTop (ef_1 m p1) k) ?_
  show Done p e below s _ _ _ (s₁.setTop (mkF m 0 #[.val (.int p1), .unset] []))
  refine Done.step (fun t k => XS.iloadN X0.here hx rfl (hb hby d1_0) rfl k) ?_
  show Done p e below s _ _ _ (s₁.setTop (mkF m 1 #[.val (.int p1), .unset] [(.int p1)]))
  refine Done.step (X0.ldcInt hx hown (mvT hZ (hw _ (List.mem_of_getElem? (i := 4) rfl))) (g := (mkF m 1 #[.val (.int p1), .unset] [(.int p1)])) rfl (hb hby d1_1)) ?_
  show Done p e below s _ _ _ (s₁.setTop (mkF m 3 #[.val (.int p1), .unset] [(.int (2147483647 : Int32)), (.int p1)]))
  refine Done.step (fun t k => XS.iand X0.here hx rfl (hb hby d1_3) rfl k) ?_
  show Done p e below s _ _ _ (s₁.setTop (mkF m 4 #[.val (.int p1), .unset] [(.int (p1 &&& (2147483647 : Int32)))]))
  refine Done.step (fun t k => XS.istoreN X0.here hx rfl (hb hby d1_4) rfl (l' := #[.val (.int p1), .val (.int (p1 &&& (2147483647 : Int32)))]) rfl k) ?_
  show Done p e below s _ _ _ (s₁.setTop (mkF m 5 #[.val (.int p1), .val (.int (p1 &&& (2147483647 : Int32)))] []))
  refine Done.step (fun t k => XS.iloadN X0.here hx rfl (hb hby d1_5) rfl k) ?_
  show Done p e below s _ _ _ (s₁.setTop (mkF m 6 #[.val (.int p1), .val (.int (p1 &&& (2147483647 : Int32)))] [(.int (p1 &&& (2147483647 : Int32)))]))
  by_cases c1 : (p1 &&& (2147483647 : Int32)) = (0 : Int32)
  · refine Done.step (fun t k => XS.ifNo X0.here hx rfl (hb hby d1_6) rfl ((if0 _ _).trans (teq c1).2) k) ?_
    show Done p e below s _ _ _ (s₁.setTop (mkF m 9 #[.val (.int p1), .val (.int (p1 &&& (2147483647 : Int32)))] []))
    refine Done.step (fun t k => XS.iconst X0.here hx rfl (hb hby d1_9) k) ?_
    show Done p e below s _ _ _ (s₁.setTop (mkF m 10 #[.val (.int p1), .val (.int (p1 &&& (2147483647 : Int32)))] [(.int (1 : Int32))]))
    exact Done.int X0 hx hlk hret (hb hby d1_10) (by decide) (by decide) ⟨by rw [show F1 p1 = (1 : Int32) from by unfold F1; rw [if_pos c1]] <;> rfl, N0, e0⟩
  · refine Done.step (fun t k => XS.ifYes X0.here hx rfl (pc0 := 6) (pc' := 11) rfl (hb hby d1_6) rfl ((if0 _ _).trans (feq c1).2) (by decide) (by decide) k) ?_
    show Done p e below s _ _ _ (s₁.setTop (mkF m 11 #[.val (.int p1), .val (.int (p1 &&& (2147483647 : Int32)))] []))
    refine Done.step (fun t k => XS.iloadN X0.here hx rfl (hb hby d1_11) rfl k) ?_
    show Done p e below s _ _ _ (s₁.setTop (mkF m 12 #[.val (.int p1), .val (.int (p1 &&& (2147483647 : Int32)))] [(.int (p1 &&& (2147483647 : Int32)))]))
    exact Done.int X0 hx hlk hret (hb hby d1_12) (by decide) (by decide) ⟨by rw [show F1 p1 = (p1 &&& (2147483647 : Int32)) from by unfold F1; rw [if_neg c1]] <;> rfl, N0, e0⟩
def TL (xs : List Int32) : Nat → Int64
  | 0 => 0
  | n + 1 => TL xs n + (xs[n + 1]?.getD 0).toInt64
theorem TL_succ {xs : List Int32} {n : Nat} {x : Int32} (h : xs[n + 1]? = some x) : TL xs n + (x).toInt64 = TL xs (n + 1) := by
  show _ = TL xs n + (xs[n + 1]?.getD 0).toInt64
  rw [h]; rfl
theorem d4_4 : decode prog_20_method_7_code 4 = .ok (.iload_n 3, 1) := by decide +kernel
theorem d4_5 : decode prog_20_method_7_code 5 = .ok (.aload_n 0, 1) := by decide +kernel
theorem d4_6 : decode prog_20_method_7_code 6 = .ok (.getfield 13, 3) := by decide +kernel
theorem d4_9 : decode prog_20_method_7_code 9 = .ok (.if_icmp .gt 19, 3) := by decide +kernel
theorem d4_12 : decode prog_20_method_7_code 12 = .ok (.lload_n 1, 1) := by decide +kernel
theorem d4_13 : decode prog_20_method_7_code 13 = .ok (.aload_n 0, 1) := by decide +kernel
theorem d4_14 : decode prog_20_method_7_code 14 = .ok (.getfield 23, 3) := by decide +kernel
theorem d4_17 : decode prog_20_method_7_code 17 = .ok (.iload_n 3, 1) := by decide +kernel
theorem d4_18 : decode prog_20_method_7_code 18 = .ok (.iaload, 1) := by decide +kernel
theorem d4_19 : decode prog_20_method_7_code 19 = .ok (.i2l, 1) := by decide +kernel
theorem d4_20 : decode prog_20_method_7_code 20 = .ok (.ladd, 1) := by decide +kernel
theorem d4_21 : decode prog_20_method_7_code 21 = .ok (.lstore_n 1, 1) := by decide +kernel
theorem d4_22 : decode prog_20_method_7_code 22 = .ok (.iinc 3 1, 3) := by decide +kernel
theorem d4_25 : decode prog_20_method_7_code 25 = .ok (.goto (-21), 3) := by decide +kernel
theorem d4_28 : decode prog_20_method_7_code 28 = .ok (.lload_n 1, 1) := by decide +kernel
theorem d4_29 : decode prog_20_method_7_code 29 = .ok (.lreturn, 1) := by decide +kernel
set_option maxRecDepth 65536 in
set_option maxHeartbeats 40000000 in
theorem lp4 {p : Program} {l : Launch} {e : Env} {s : State} {m : MethodId} {args : Array Value} {below : List Frame} {meth : Method} {c : Code} {Z : State} {a0 : Array Value} {h0 : Heap} {n0 : Nat} (a1 : Addr) (p9 : Int32) (d9 : Addr) (xs : List Int32) (nn : Nat)
    (hx : p.tables.exec = Jvm.exec) (hZ : Z.Warmed39 s.vm) (hw : ∀ d ∈ tables_1, d.before a0 Z = true) (hby : c.code = prog_20_method_7_code) (hml : c.maxLocals = 4) (hown : s.vm.findClass "com/example/dendrocover/dendrocover/Network" = some m.cls) (hlk : meth.locks = false) (hret : meth.sig.returnType = (some .long : Option FieldType)) (hnm : meth.name = "totalLength") (F1 : Fld Z h0 a1 "com/example/dendrocover/dendrocover/Network" "roadCount" "I" (.int p9)) (F2 : Fld Z h0 a1 "com/example/dendrocover/dendrocover/Network" "length" "[I" (.ref d9)) (A9 : Ax Z h0 d9 .int (xs.map Value.int)) (hn9 : p9.toInt = nn) (hn3 : nn ≤ 3) (hx1 : nn < xs.length) :
    ∀ (k : Nat) (T : State) (locs : List Loc) (j1 : Int64) (i3 : Int32) (ii : Nat) (X0 : Stand p l e ({ frames := 0, cells := 0, slots := 0, locals := 0 } : Room) s m args below meth c T locs 0 0) (N0 : Fr n0 locs) (Z0 : n0 ≤ h0.size) (e0 : T.heap = h0) (hk : nn - ii < k) (hi : i3.toInt = (ii : Int) + 1) (hii : ii ≤ nn) (hacc : j1 = TL xs ii), Done p e below s (fun v h L => v = some (.long (TL xs nn)) ∧ Fr n0 L ∧ h = h0) ({ frames := 0, cells := 0, slots := 0, locals := 0 } : Room).cells ({ frames := 0, cells := 0, slots := 0, locals := 0 } : Room).slots (T.setTop (mkF m 4 #[.val (.ref a1), .val (.long j1), .second, .val (.int i3)] [])) := by
  intro k
  induction k with
  | zero => intro T locs j1 i3 ii X0 N0 Z0 e0 hk hi hii hacc; exact absurd hk (Nat.not_lt_zero _)
  | succ k ih =>
    intro T locs j1 i3 ii X0 N0 Z0 e0 hk hi hii hacc
    show Done p e below s _ _ _ (T.setTop (mkF m 4 #[.val (.ref a1), .val (.long j1), .second, .val (.int i3)] []))
    refine Done.step (fun t k => XS.iloadN X0.here hx rfl (hb hby d4_4) rfl k) ?_
    show Done p e below s _ _ _ (T.setTop (mkF m 5 #[.val (.ref a1), .val (.long j1), .second, .val (.int i3)] [(.int i3)]))
    refine Done.step (fun t k => XS.aloadN X0.here hx rfl (hb hby d4_5) rfl rfl k) ?_
    show Done p e below s _ _ _ (T.setTop (mkF m 6 #[.val (.ref a1), .val (.long j1), .second, .val (.int i3)] [(.ref a1), (.int i3)]))
    obtain ⟨T101, X101, e101, st101⟩ := getF X0 hx hZ hown (host := "") (Or.inl (hw _ (List.mem_of_getElem? (i := 18) rfl))) Via.refl e0 F1 (g := (mkF m 6 #[.val (.ref a1), .val (.long j1), .second, .val (.int i3)] [(.ref a1), (.int i3)])) rfl rfl (hb hby d4_6)
    refine Done.step st101 ?_
    show Done p e below s _ _ _ (T101.setTop (mkF m 9 #[.val (.ref a1), .val (.long j1), .second, .val (.int i3)] [(.int p9), (.int i3)]))
    by_cases c1 : p9 < i3
    · refine Done.step (fun t k => XS.icmpYes X101.here hx rfl (pc0 := 9) (pc' := 28) rfl (hb hby d4_9) rfl (tlt c1).2.2.1 (by decide) (by decide) k) ?_
      show Done p e below s _ _ _ (T101.setTop (mkF m 28 #[.val (.ref a1), .val (.long j1), .second, .val (.int i3)] []))
      refine Done.step (fun t k => XS.lloadN X101.here hx rfl (hb hby d4_28) rfl k) ?_
      show Done p e below s _ _ _ (T101.setTop (mkF m 29 #[.val (.ref a1), .val (.long j1), .second, .val (.int i3)] [(.long j1)]))
      have hgt : (nn : Int) < i3.toInt := by have := Int32.lt_iff_toInt_lt.mp c1; omega
      obtain rfl : ii = nn := by omega
      exact Done.long X101 hx hlk hret (hb hby d4_29) (by decide) (by decide) ⟨by rw [hacc], N0, e101⟩
    · refine Done.step (fun t k => XS.icmpNo X101.here hx rfl (hb hby d4_9) rfl (flt c1).2.2.1 k) ?_
      show Done p e below s _ _ _ (T101.setTop (mkF m 12 #[.val (.ref a1), .val (.long j1), .second, .val (.int i3)] []))
      refine Done.step (fun t k => XS.lloadN X101.here hx rfl (hb hby d4_12) rfl k) ?_
      show Done p e below s _ _ _ (T101.setTop (mkF m 13 #[.val (.ref a1), .val (.long j1), .second, .val (.int i3)] [(.long j1)]))
      refine Done.step (fun t k => XS.aloadN X101.here hx rfl (hb hby d4_13) rfl rfl k) ?_
      show Done p e below s _ _ _ (T101.setTop (mkF m 14 #[.val (.ref a1), .val (.long j1), .second, .val (.int i3)] [(.ref a1), (.long j1)]))
      obtain ⟨T102, X102, e102, st102⟩ := getF X101 hx hZ hown (host := "") (Or.inl (hw _ (List.mem_of_getElem? (i := 24) rfl))) Via.refl e101 F2 (g := (mkF m 14 #[.val (.ref a1), .val (.long j1), .second, .val (.int i3)] [(.ref a1), (.long j1)])) rfl rfl (hb hby d4_14)
      refine Done.step st102 ?_
      show Done p e below s _ _ _ (T102.setTop (mkF m 17 #[.val (.ref a1), .val (.long j1), .second, .val (.int i3)] [(.ref d9), (.long j1)]))
      refine Done.step (fun t k => XS.iloadN X102.here hx rfl (hb hby d4_17) rfl k) ?_
      show Done p e below s _ _ _ (T102.setTop (mkF m 18 #[.val (.ref a1), .val (.long j1), .second, .val (.int i3)] [(.int i3), (.ref d9), (.long j1)]))
      have hle : i3.toInt ≤ nn := by have := Int.not_lt.mp (fun q => c1 (Int32.lt_iff_toInt_lt.mpr q)); omega
      have hi1 : ii + 1 ≤ nn := by omega
      have h7 := own_idx (x := i3) (n := ii + 1) (by omega) (Nat.lt_of_le_of_lt hi1 hx1)
      obtain ⟨xv, hxv⟩ := own_get (xs := xs) h7.2.2
      have hxw := hxv
      rw [h7.2.1] at hxw
      refine Done.step (ldI X102 hx hZ e102 A9 (j := i3) (x := (.int xv)) (own_nneg h7.1) (by rw [List.getElem?_map, hxv]; rfl) (g := (mkF m 18 #[.val (.ref a1), .val (.long j1), .second, .val (.int i3)] [(.int i3), (.ref d9), (.long j1)])) rfl rfl (hb hby d4_18)) ?_
      show Done p e below s _ _ _ (T102.setTop (mkF m 19 #[.val (.ref a1), .val (.long j1), .second, .val (.int i3)] [(.int xv), (.long j1)]))
      refine Done.step (fun t k => XS.i2l X102.here hx rfl (hb hby d4_19) rfl k) ?_
      show Done p e below s _ _ _ (T102.setTop (mkF m 20 #[.val (.ref a1), .val (.long j1), .second, .val (.int i3)] [(.long (xv).toInt64), (.long j1)]))
      refine Done.step (fun t k => XS.ladd X102.here hx rfl (hb hby d4_20) rfl k) ?_
      show Done p e below s _ _ _ (T102.setTop (mkF m 21 #[.val (.ref a1), .val (.long j1), .second, .val (.int i3)] [(.long (j1 + (xv).toInt64))]))
      refine Done.step (fun t k => XS.lstoreN X102.here hx rfl (hb hby d4_21) rfl (l' := #[.val (.ref a1), .val (.long (j1 + (xv).toInt64)), .second, .val (.int i3)]) rfl k) ?_
      show Done p e below s _ _ _ (T102.setTop (mkF m 22 #[.val (.ref a1), .val (.long (j1 + (xv).toInt64)), .second, .val (.int i3)] []))
      refine Done.step (fun t k => XS.iinc X102.here hx rfl (hb hby d4_22) rfl (l' := #[.val (.ref a1), .val (.long (j1 + (xv).toInt64)), .second, .val (.int (i3 + (1 : Int32)))]) rfl k) ?_
      show Done p e below s _ _ _ (T102.setTop (mkF m 25 #[.val (.ref a1), .val (.long (j1 + (xv).toInt64)), .second, .val (.int (i3 + (1 : Int32)))] []))
      refine Done.step (fun t k => XS.goto X102.here hx rfl (pc0 := 25) (pc' := 4) rfl (hb hby d4_25) (by decide) (by decide) k) ?_
      show Done p e below s _ _ _ (T102.setTop (mkF m 4 #[.val (.ref a1), .val (.long (j1 + (xv).toInt64)), .second, .val (.int (i3 + (1 : Int32)))] []))
      exact ih T102 _ (j1 + (xv).toInt64) (i3 + (1 : Int32)) (ii + 1) X102 N0 Z0 e102 (by omega) (own_inc hi (by omega)) hi1 (by rw [hacc]; exact TL_succ hxw)
theorem d4_0 : decode prog_20_method_7_code 0 = .ok (.lconst 0, 1) := by decide +kernel
theorem d4_1 : decode prog_20_method_7_code 1 = .ok (.lstore_n 1, 1) := by decide +kernel
theorem d4_2 : decode prog_20_method_7_code 2 = .ok (.iconst 1, 1) := by decide +kernel
theorem d4_3 : decode prog_20_method_7_code 3 = .ok (.istore_n 3, 1) := by decide +kernel
theorem pn_4 : plainName "com/example/dendrocover/dendrocover/Network" = true := by first | (simp [plainName, overriddenIn]; done) | decide +kernel
theorem ef_4 (m : MethodId) (a1 : Addr) : entryFrame m #[(.ref a1)] 4 = mkF m 0 #[.val (.ref a1), .unset, .unset, .unset] [] := by first | (simp [entryFrame, mkF, argsToLocals, Value.category]; done) | rfl
def Qrm4 (Z : State) (a1 : Addr) (p9 : Int32) (d9 : Addr) (xs : List Int32) (nn : Nat) (h0 : Heap) (n0 : Nat) : Option Value → Heap → List Loc → Prop := fun v h L => v = some (.long (TL xs nn)) ∧ Fr n0 L ∧ h = h0
set_option maxRecDepth 65536 in
set_option maxHeartbeats 40000000 in
theorem rm4 (l : Launch) (Z : State) (a0 : Array Value) (hw : ∀ d ∈ tables_1, d.before a0 Z = true) (ws : List Jvm.Cond) (a1 : Addr) (p9 : Int32) (d9 : Addr) (xs : List Int32) (nn : Nat) (h0 : Heap) (n0 : Nat) (Z0 : n0 ≤ h0.size) (F1 : Fld Z h0 a1 "com/example/dendrocover/dendrocover/Network" "roadCount" "I" (.int p9)) (F2 : Fld Z h0 a1 "com/example/dendrocover/dendrocover/Network" "length" "[I" (.ref d9)) (A9 : Ax Z h0 d9 .int (xs.map Value.int)) (hn9 : p9.toInt = nn) (hn3 : nn ≤ 3) (hx1 : nn < xs.length) :
    MetFree l (⟨"com/example/dendrocover/dendrocover/Network", "totalLength", "()J"⟩ : MethodName) (head1 (Jvm.Cond.code (⟨"com/example/dendrocover/dendrocover/Network", "totalLength", "()J"⟩ : MethodName) prog_20_method_7_code 4 (some .long) :: ws) ({ frames := 0, cells := 0, slots := 0, locals := 0 } : Room)) (fun a U => a = #[(.ref a1)] ∧ Z.Warmed39 U.vm ∧ U.heap = h0) (fun _ _ _ _ _ => True) (fun _ U o U' => ∃ v L, o = .returned v ∧ Qrm4 Z a1 p9 d9 xs nn h0 n0 v U'.heap L ∧ FrameEnd U o U' L ({ frames := 0, cells := 0, slots := 0, locals := 0 } : Room).cells ({ frames := 0, cells := 0, slots := 0, locals := 0 } : Room).slots) := by
  refine MetFree.of_bodySF (plainFor_of_name pn_4) hisR ?_
  intro p e s m args below meth c s₁ Bd hml0 hP hK
  obtain ⟨rfl, hZ, hh⟩ := hP
  have hx := Bd.exec
  have hby := Bd.bytes
  have hml : c.maxLocals = 4 := hml0
  have hown : s.vm.findClass "com/example/dendrocover/dendrocover/Network" = some m.cls := findClass_of_methodNamed Bd.named
  have hnm := (name_of_methodNamed Bd.named Bd.method).1
  have hlk : meth.locks = false := BodyLoose.notSynchronized Bd
  have hret := Bd.returns
  have X0 : Stand p l e ({ frames := 0, cells := 0, slots := 0, locals := 0 } : Room) s m #[(.ref a1)] below meth c s₁ [] 0 0 := Stand.of_body Bd
  have e0 : s₁.heap = h0 := by rw [← hh, Bd.state]; rfl
  have N0 := Fr.nil n0
  show Done p e below s (Qrm4 Z a1 p9 d9 xs nn h0 n0) ({ frames := 0, cells := 0, slots := 0, locals := 0 } : Room).cells ({ frames := 0, cells := 0, slots := 0, locals := 0 } : Room).slots (s₁.setTop (entryFrame m #[(.ref a1)] 4))
  refine Done.step (fun t k => castTop (ef_4 m a1) k) ?_
  show Done p e below s _ _ _ (s₁.setTop (mkF m 0 #[.val (.ref a1), .unset, .unset, .unset] []))
  refine Done.step (fun t k => XS.lconst X0.here hx rfl (hb hby d4_0) k) ?_
  show Done p e below s _ _ _ (s₁.setTop (mkF m 1 #[.val (.ref a1), .unset, .unset, .unset] [(.long (0 : Int64))]))
  refine Done.step (fun t k => XS.lstoreN X0.here hx rfl (hb hby d4_1) rfl (l' := #[.val (.ref a1), .val (.long (0 : Int64)), .second, .unset]) rfl k) ?_
  show Done p e below s _ _ _ (s₁.setTop (mkF m 2 #[.val (.ref a1), .val (.long (0 : Int64)), .second, .unset] []))
  refine Done.step (fun t k => XS.iconst X0.here hx rfl (hb hby d4_2) k) ?_
  show Done p e below s _ _ _ (s₁.setTop (mkF m 3 #[.val (.ref a1), .val (.long (0 : Int64)), .second, .unset] [(.int (1 : Int32))]))
  refine Done.step (fun t k => XS.istoreN X0.here hx rfl (hb hby d4_3) rfl (l' := #[.val (.ref a1), .val (.long (0 : Int64)), .second, .val (.int (1 : Int32))]) rfl k) ?_
  show Done p e below s _ _ _ (s₁.setTop (mkF m 4 #[.val (.ref a1), .val (.long (0 : Int64)), .second, .val (.int (1 : Int32))] []))
  exact lp4 a1 p9 d9 xs nn hx hZ hw hby hml hown hlk hret hnm F1 F2 A9 hn9 hn3 hx1 (nn + 1)  s₁ _ (0 : Int64) (1 : Int32) 0 X0 N0 Z0 e0 (by omega) rfl (Nat.zero_le _) rfl
theorem own_e (y f : Int32) (h : ((y &&& (1 : Int32)) + (1 : Int32)) = f) : 1 ≤ f.toInt ∧ f.toInt ≤ ((2 : Nat) : Int) := by
  have m := c_mask y (1 : Int32) 1 (by decide) (by decide)
  have a := c_iadd (y &&& (1 : Int32)) (1 : Int32)
  have r := rng32 f
  rw [h, own_one] at a
  omega
theorem own_in3 {f1 f2 f3 : Int32} {nn : Nat} (hn : nn ≤ 3) (h1 : 1 ≤ f1.toInt ∧ f1.toInt ≤ ((2 : Nat) : Int)) (h2 : 1 ≤ f2.toInt ∧ f2.toInt ≤ ((2 : Nat) : Int)) (h3 : 1 ≤ f3.toInt ∧ f3.toInt ≤ ((2 : Nat) : Int)) : ∀ i, 1 ≤ i → i ≤ nn → 1 ≤ fv [(1 : Int32), f1, f2, f3, (1 : Int32)] i ∧ fv [(1 : Int32), f1, f2, f3, (1 : Int32)] i ≤ ((2 : Nat) : Int) := by
  intro i a b
  obtain rfl | rfl | rfl : i = 1 ∨ i = 2 ∨ i = 3 := by omega
  · exact h1
  · exact h2
  · exact h3
theorem own_n (p x : Int32) (h : (p &&& (3 : Int32)) = x) : ∃ nn : Nat, x.toInt = nn ∧ nn ≤ 3 ∧ (x = (0 : Int32) ∨ x = (1 : Int32) ∨ x = (2 : Int32) ∨ x = (3 : Int32)) := by
  have m := c_mask p (3 : Int32) 2 (by decide) (by decide)
  rw [h] at m
  refine ⟨x.toInt.toNat, by omega, by omega, ?_⟩
  simp only [← Int32.toInt_inj, own_one, show (0 : Int32).toInt = 0 from rfl, show (2 : Int32).toInt = 2 from rfl, show (3 : Int32).toInt = 3 from rfl]
  omega
theorem pn_0 : plainName "com/example/dendrocover/dendrocover/NetworkTotalLengthPinLaw" = true := by first | (simp [plainName, overriddenIn]; done) | decide +kernel
theorem ef_0 (m : MethodId) (p1 : Int32) (p2 : Int32) (p3 : Int32) (p4 : Int32) (p5 : Int32) (p6 : Int32) : entryFrame m #[(.int p1), (.int p2), (.int p3), (.int p4), (.int p5), (.int p6)] maxLocals = mkF m 0 #[.val (.int p1), .val (.int p2), .val (.int p3), .val (.int p4), .val (.int p5), .val (.int p6), .unset, .unset, .unset, .unset, .unset, .unset, .unset, .unset, .unset, .unset] [] := by first | (simp [entryFrame, mkF, argsToLocals, Value.category, maxLocals]; done) | rfl
def Qrm0 (Z : State) (p1 : Int32) (p2 : Int32) (p3 : Int32) (p4 : Int32) (p5 : Int32) (p6 : Int32) (h0 : Heap) (n0 : Nat) : Option Value → Heap → List Loc → Prop := fun v h L => v = some (.int 1) ∧ Fr n0 L
set_option maxRecDepth 65536 in
set_option maxHeartbeats 40000000 in
theorem rm0 (l : Launch) (Z : State) (a0 : Array Value) (hw : ∀ d ∈ tables_1, d.before a0 Z = true) (ws : List Jvm.Cond) (p1 : Int32) (p2 : Int32) (p3 : Int32) (p4 : Int32) (p5 : Int32) (p6 : Int32) (h0 : Heap) (n0 : Nat) (Z0 : n0 ≤ h0.size) :
    MetFree l x (head1 (Jvm.Cond.code x code maxLocals ret :: ws) room_1) (fun a U => a = #[(.int p1), (.int p2), (.int p3), (.int p4), (.int p5), (.int p6)] ∧ Z.Warmed39 U.vm ∧ U.heap = h0) (fun _ _ _ _ _ => True) (fun _ U o U' => ∃ v L, o = .returned v ∧ Qrm0 Z p1 p2 p3 p4 p5 p6 h0 n0 v U'.heap L ∧ FrameEnd U o U' L room_1.cells room_1.slots) := by
  refine MetFree.of_bodySF (plainFor_of_name pn_0) hisR ?_
  intro p e s m args below meth c s₁ Bd hml0 hP hK
  obtain ⟨rfl, hZ, hh⟩ := hP
  have hx := Bd.exec
  have hby := Bd.bytes
  have hml : c.maxLocals = 16 := hml0
  have hown : s.vm.findClass "com/example/dendrocover/dendrocover/NetworkTotalLengthPinLaw" = some m.cls := findClass_of_methodNamed Bd.named
  have hnm := (name_of_methodNamed Bd.named Bd.method).1
  have hlk : meth.locks = false := BodyLoose.notSynchronized Bd
  have hret := Bd.returns
  have X0 : Stand p l e room_1 s m #[(.int p1), (.int p2), (.int p3), (.int p4), (.int p5), (.int p6)] below meth c s₁ [] 0 0 := Stand.of_body Bd
  have e0 : s₁.heap = h0 := by rw [← hh, Bd.state]; rfl
  have N0 := Fr.nil n0
  show Done p e below s (Qrm0 Z p1 p2 p3 p4 p5 p6 h0 n0) room_1.cells room_1.slots (s₁.setTop (entryFrame m #[(.int p1), (.int p2), (.int p3), (.int p4), (.int p5), (.int p6)] maxLocals))
  refine Done.step (fun t k => castTop (ef_0 m p1 p2 p3 p4 p5 p6) k) ?_
  show Done p e below s _ _ _ (s₁.setTop (mkF m 0 #[.val (.int p1), .val (.int p2), .val (.int p3), .val (.int p4), .val (.int p5), .val (.int p6), .unset, .unset, .unset, .unset, .unset, .unset, .unset, .unset, .unset, .unset] []))
  refine Done.step (fun t k => XS.iloadN X0.here hx rfl (hb hby at_0) rfl k) ?_
  show Done p e below s _ _ _ (s₁.setTop (mkF m 1 #[.val (.int p1), .val (.int p2), .val (.int p3), .val (.int p4), .val (.int p5), .val (.int p6), .unset, .unset, .unset, .unset, .unset, .unset, .unset, .unset, .unset, .unset] [(.int p1)]))
  refine Done.step (fun t k => XS.iconst X0.here hx rfl (hb hby at_1) k) ?_
  show Done p e below s _ _ _ (s₁.setTop (mkF m 2 #[.val (.int p1), .val (.int p2), .val (.int p3), .val (.int p4), .val (.int p5), .val (.int p6), .unset, .unset, .unset, .unset, .unset, .unset, .unset, .unset, .unset, .unset] [(.int (3 : Int32)), (.int p1)]))
  refine Done.step (fun t k => XS.iand X0.here hx rfl (hb hby at_2) rfl k) ?_
  show Done p e below s _ _ _ (s₁.setTop (mkF m 3 #[.val (.int p1), .val (.int p2), .val (.int p3), .val (.int p4), .val (.int p5), .val (.int p6), .unset, .unset, .unset, .unset, .unset, .unset, .unset, .unset, .unset, .unset] [(.int (p1 &&& (3 : Int32)))]))
  generalize dx101 : (p1 &&& (3 : Int32)) = x101
  show Done p e below s _ _ _ (s₁.setTop (mkF m 3 #[.val (.int p1), .val (.int p2), .val (.int p3), .val (.int p4), .val (.int p5), .val (.int p6), .unset, .unset, .unset, .unset, .unset, .unset, .unset, .unset, .unset, .unset] [(.int x101)]))
  refine Done.step (fun t k => XS.istore X0.here hx rfl (hb hby at_3) rfl (l' := #[.val (.int p1), .val (.int p2), .val (.int p3), .val (.int p4), .val (.int p5), .val (.int p6), .val (.int x101), .unset, .unset, .unset, .unset, .unset, .unset, .unset, .unset, .unset]) rfl k) ?_
  show Done p e below s _ _ _ (s₁.setTop (mkF m 5 #[.val (.int p1), .val (.int p2), .val (.int p3), .val (.int p4), .val (.int p5), .val (.int p6), .val (.int x101), .unset, .unset, .unset, .unset, .unset, .unset, .unset, .unset, .unset] []))
  refine Done.step (fun t k => XS.iloadN X0.here hx rfl (hb hby at_5) rfl k) ?_
  show Done p e below s _ _ _ (s₁.setTop (mkF m 6 #[.val (.int p1), .val (.int p2), .val (.int p3), .val (.int p4), .val (.int p5), .val (.int p6), .val (.int x101), .unset, .unset, .unset, .unset, .unset, .unset, .unset, .unset, .unset] [(.int p2)]))
  obtain ⟨v102, _, ⟨T102, L102, k102, n102⟩, -, X102, ⟨Lc102, hQ102, l102, y102, z102⟩, st102⟩ := Jvm.LawKit.callS X0 hx (y := (⟨"com/example/dendrocover/dendrocover/NetworkTotalLengthPinLaw", "positive", "(I)I"⟩ : MethodName)) hown (mvT hZ (hw _ (List.mem_of_getElem? (i := 0) rfl))) (mvT hZ (hw _ (List.mem_of_getElem? (i := 1) rfl))) (mvT hZ (hw _ (List.mem_of_getElem? (i := 2) rfl))) (mvT hZ (hw _ (List.mem_of_getElem? (i := 3) rfl))) (by decide) (backOf (W := 0) (rm1 l Z a0 hw [] p2 h0 n0 Z0 ) hZ (hw _ (List.mem_of_getElem? (i := 3) rfl)) (hw _ (List.mem_of_getElem? (i := 2) rfl)) (by decide) (by decide)) (g := (mkF m 6 #[.val (.int p1), .val (.int p2), .val (.int p3), .val (.int p4), .val (.int p5), .val (.int p6), .val (.int x101), .unset, .unset, .unset, .unset, .unset, .unset, .unset, .unset, .unset] [(.int p2)])) rfl (by rw [hml]; rfl) (argsL := [(.int p2)]) (rest := []) (lenOf pd_0 rfl) rfl (by show 2 * 0 + _ ≤ _; exact Nat.le_of_eq rfl) (hb hby at_6) (fun _ _ => ⟨rfl, e0, (by decide : 0 + 0 ≤ _), (by decide : 0 + 0 ≤ _)⟩)
  dsimp only [Pt.U, Pt.locs, Pt.cells, Pt.slots] at X102 l102 y102 z102 st102 hQ102
  subst l102 y102 z102
  refine Done.step st102 ?_
  obtain ⟨rfl, N102q, e102⟩ := hQ102
  have N102 := Fr.app N0 N102q
  show Done p e below s _ _ _ (T102.setTop (mkF m 9 #[.val (.int p1), .val (.int p2), .val (.int p3), .val (.int p4), .val (.int p5), .val (.int p6), .val (.int x101), .unset, .unset, .unset, .unset, .unset, .unset, .unset, .unset, .unset] [(.int (F1 p2))]))
  generalize dx103 : (F1 p2) = x103
  show Done p e below s _ _ _ (T102.setTop (mkF m 9 #[.val (.int p1), .val (.int p2), .val (.int p3), .val (.int p4), .val (.int p5), .val (.int p6), .val (.int x101), .unset, .unset, .unset, .unset, .unset, .unset, .unset, .unset, .unset] [(.int x103)]))
  refine Done.step (fun t k => XS.istore X102.here hx rfl (hb hby at_9) rfl (l' := #[.val (.int p1), .val (.int p2), .val (.int p3), .val (.int p4), .val (.int p5), .val (.int p6), .val (.int x101), .val (.int x103), .unset, .unset, .unset, .unset, .unset, .unset, .unset, .unset]) rfl k) ?_
  show Done p e below s _ _ _ (T102.setTop (mkF m 11 #[.val (.int p1), .val (.int p2), .val (.int p3), .val (.int p4), .val (.int p5), .val (.int p6), .val (.int x101), .val (.int x103), .unset, .unset, .unset, .unset, .unset, .unset, .unset, .unset] []))
  refine Done.step (fun t k => XS.iloadN X102.here hx rfl (hb hby at_11) rfl k) ?_
  show Done p e below s _ _ _ (T102.setTop (mkF m 12 #[.val (.int p1), .val (.int p2), .val (.int p3), .val (.int p4), .val (.int p5), .val (.int p6), .val (.int x101), .val (.int x103), .unset, .unset, .unset, .unset, .unset, .unset, .unset, .unset] [(.int p3)]))
  obtain ⟨v104, _, ⟨T104, L104, k104, n104⟩, -, X104, ⟨Lc104, hQ104, l104, y104, z104⟩, st104⟩ := Jvm.LawKit.callS X102 hx (y := (⟨"com/example/dendrocover/dendrocover/NetworkTotalLengthPinLaw", "positive", "(I)I"⟩ : MethodName)) hown (mvT hZ (hw _ (List.mem_of_getElem? (i := 0) rfl))) (mvT hZ (hw _ (List.mem_of_getElem? (i := 1) rfl))) (mvT hZ (hw _ (List.mem_of_getElem? (i := 2) rfl))) (mvT hZ (hw _ (List.mem_of_getElem? (i := 3) rfl))) (by decide) (backOf (W := 0) (rm1 l Z a0 hw [] p3 h0 n0 Z0 ) hZ (hw _ (List.mem_of_getElem? (i := 3) rfl)) (hw _ (List.mem_of_getElem? (i := 2) rfl)) (by decide) (by decide)) (g := (mkF m 12 #[.val (.int p1), .val (.int p2), .val (.int p3), .val (.int p4), .val (.int p5), .val (.int p6), .val (.int x101), .val (.int x103), .unset, .unset, .unset, .unset, .unset, .unset, .unset, .unset] [(.int p3)])) rfl (by rw [hml]; rfl) (argsL := [(.int p3)]) (rest := []) (lenOf pd_0 rfl) rfl (by show 2 * 0 + _ ≤ _; exact Nat.le_of_eq rfl) (hb hby at_12) (fun _ _ => ⟨rfl, e102, (by decide : 0 + 0 ≤ _), (by decide : 0 + 0 ≤ _)⟩)
  dsimp only [Pt.U, Pt.locs, Pt.cells, Pt.slots] at X104 l104 y104 z104 st104 hQ104
  subst l104 y104 z104
  refine Done.step st104 ?_
  obtain ⟨rfl, N104q, e104⟩ := hQ104
  have N104 := Fr.app N102 N104q
  show Done p e below s _ _ _ (T104.setTop (mkF m 15 #[.val (.int p1), .val (.int p2), .val (.int p3), .val (.int p4), .val (.int p5), .val (.int p6), .val (.int x101), .val (.int x103), .unset, .unset, .unset, .unset, .unset, .unset, .unset, .unset] [(.int (F1 p3))]))
  generalize dx105 : (F1 p3) = x105
  show Done p e below s _ _ _ (T104.setTop (mkF m 15 #[.val (.int p1), .val (.int p2), .val (.int p3), .val (.int p4), .val (.int p5), .val (.int p6), .val (.int x101), .val (.int x103), .unset, .unset, .unset, .unset, .unset, .unset, .unset, .unset] [(.int x105)]))
  refine Done.step (fun t k => XS.istore X104.here hx rfl (hb hby at_15) rfl (l' := #[.val (.int p1), .val (.int p2), .val (.int p3), .val (.int p4), .val (.int p5), .val (.int p6), .val (.int x101), .val (.int x103), .val (.int x105), .unset, .unset, .unset, .unset, .unset, .unset, .unset]) rfl k) ?_
  show Done p e below s _ _ _ (T104.setTop (mkF m 17 #[.val (.int p1), .val (.int p2), .val (.int p3), .val (.int p4), .val (.int p5), .val (.int p6), .val (.int x101), .val (.int x103), .val (.int x105), .unset, .unset, .unset, .unset, .unset, .unset, .unset] []))
  refine Done.step (fun t k => XS.iloadN X104.here hx rfl (hb hby at_17) rfl k) ?_
  show Done p e below s _ _ _ (T104.setTop (mkF m 18 #[.val (.int p1), .val (.int p2), .val (.int p3), .val (.int p4), .val (.int p5), .val (.int p6), .val (.int x101), .val (.int x103), .val (.int x105), .unset, .unset, .unset, .unset, .unset, .unset, .unset] [(.int p4)]))
  obtain ⟨v106, _, ⟨T106, L106, k106, n106⟩, -, X106, ⟨Lc106, hQ106, l106, y106, z106⟩, st106⟩ := Jvm.LawKit.callS X104 hx (y := (⟨"com/example/dendrocover/dendrocover/NetworkTotalLengthPinLaw", "positive", "(I)I"⟩ : MethodName)) hown (mvT hZ (hw _ (List.mem_of_getElem? (i := 0) rfl))) (mvT hZ (hw _ (List.mem_of_getElem? (i := 1) rfl))) (mvT hZ (hw _ (List.mem_of_getElem? (i := 2) rfl))) (mvT hZ (hw _ (List.mem_of_getElem? (i := 3) rfl))) (by decide) (backOf (W := 0) (rm1 l Z a0 hw [] p4 h0 n0 Z0 ) hZ (hw _ (List.mem_of_getElem? (i := 3) rfl)) (hw _ (List.mem_of_getElem? (i := 2) rfl)) (by decide) (by decide)) (g := (mkF m 18 #[.val (.int p1), .val (.int p2), .val (.int p3), .val (.int p4), .val (.int p5), .val (.int p6), .val (.int x101), .val (.int x103), .val (.int x105), .unset, .unset, .unset, .unset, .unset, .unset, .unset] [(.int p4)])) rfl (by rw [hml]; rfl) (argsL := [(.int p4)]) (rest := []) (lenOf pd_0 rfl) rfl (by show 2 * 0 + _ ≤ _; exact Nat.le_of_eq rfl) (hb hby at_18) (fun _ _ => ⟨rfl, e104, (by decide : 0 + 0 ≤ _), (by decide : 0 + 0 ≤ _)⟩)
  dsimp only [Pt.U, Pt.locs, Pt.cells, Pt.slots] at X106 l106 y106 z106 st106 hQ106
  subst l106 y106 z106
  refine Done.step st106 ?_
  obtain ⟨rfl, N106q, e106⟩ := hQ106
  have N106 := Fr.app N104 N106q
  show Done p e below s _ _ _ (T106.setTop (mkF m 21 #[.val (.int p1), .val (.int p2), .val (.int p3), .val (.int p4), .val (.int p5), .val (.int p6), .val (.int x101), .val (.int x103), .val (.int x105), .unset, .unset, .unset, .unset, .unset, .unset, .unset] [(.int (F1 p4))]))
  generalize dx107 : (F1 p4) = x107
  show Done p e below s _ _ _ (T106.setTop (mkF m 21 #[.val (.int p1), .val (.int p2), .val (.int p3), .val (.int p4), .val (.int p5), .val (.int p6), .val (.int x101), .val (.int x103), .val (.int x105), .unset, .unset, .unset, .unset, .unset, .unset, .unset] [(.int x107)]))
  refine Done.step (fun t k => XS.istore X106.here hx rfl (hb hby at_21) rfl (l' := #[.val (.int p1), .val (.int p2), .val (.int p3), .val (.int p4), .val (.int p5), .val (.int p6), .val (.int x101), .val (.int x103), .val (.int x105), .val (.int x107), .unset, .unset, .unset, .unset, .unset, .unset]) rfl k) ?_
  show Done p e below s _ _ _ (T106.setTop (mkF m 23 #[.val (.int p1), .val (.int p2), .val (.int p3), .val (.int p4), .val (.int p5), .val (.int p6), .val (.int x101), .val (.int x103), .val (.int x105), .val (.int x107), .unset, .unset, .unset, .unset, .unset, .unset] []))
  refine Done.step (fun t k => XS.iconst X106.here hx rfl (hb hby at_23) k) ?_
  show Done p e below s _ _ _ (T106.setTop (mkF m 24 #[.val (.int p1), .val (.int p2), .val (.int p3), .val (.int p4), .val (.int p5), .val (.int p6), .val (.int x101), .val (.int x103), .val (.int x105), .val (.int x107), .unset, .unset, .unset, .unset, .unset, .unset] [(.int (5 : Int32))]))
  obtain ⟨T108, h108, k108, X108, e108, E108, A108, B108, st108⟩ := newPE X106 hx hZ (hw _ (List.mem_of_getElem? (i := 5) rfl)) e106 (g := (mkF m 24 #[.val (.int p1), .val (.int p2), .val (.int p3), .val (.int p4), .val (.int p5), .val (.int p6), .val (.int x101), .val (.int x103), .val (.int x105), .val (.int x107), .unset, .unset, .unset, .unset, .unset, .unset] [(.int (5 : Int32))])) rfl (hb hby at_24) rfl (by decide) (cap := 5) (by decide) (by decide) (by decide) (by decide) (ad := "[I") (by decide)
  obtain ⟨b108, gq108⟩ : ∃ z, z = h0.size := ⟨_, rfl⟩
  rw [← gq108] at A108 B108 st108
  have g_b108 : n0 ≤ b108 := Nat.le_trans Z0 (Nat.le_of_eq gq108.symm)
  have Z108 : n0 ≤ h108.size := Nat.le_trans Z0 E108.1
  have f109 : Ax Z h108 b108 .int [(.int (0 : Int32)), (.int (0 : Int32)), (.int (0 : Int32)), (.int (0 : Int32)), (.int (0 : Int32))] := Ax.new (ty := .int) (i := 5) A108 (by decide)
  refine Done.step st108 ?_
  show Done p e below s _ _ _ (T108.setTop (mkF m 26 #[.val (.int p1), .val (.int p2), .val (.int p3), .val (.int p4), .val (.int p5), .val (.int p6), .val (.int x101), .val (.int x103), .val (.int x105), .val (.int x107), .unset, .unset, .unset, .unset, .unset, .unset] [(.ref b108)]))
  refine Done.step (fun t k => XS.astore X108.here hx rfl (hb hby at_26) rfl rfl (l' := #[.val (.int p1), .val (.int p2), .val (.int p3), .val (.int p4), .val (.int p5), .val (.int p6), .val (.int x101), .val (.int x103), .val (.int x105), .val (.int x107), .val (.ref b108), .unset, .unset, .unset, .unset, .unset]) rfl k) ?_
  show Done p e below s _ _ _ (T108.setTop (mkF m 28 #[.val (.int p1), .val (.int p2), .val (.int p3), .val (.int p4), .val (.int p5), .val (.int p6), .val (.int x101), .val (.int x103), .val (.int x105), .val (.int x107), .val (.ref b108), .unset, .unset, .unset, .unset, .unset] []))
  refine Done.step (fun t k => XS.iconst X108.here hx rfl (hb hby at_28) k) ?_
  show Done p e below s _ _ _ (T108.setTop (mkF m 29 #[.val (.int p1), .val (.int p2), .val (.int p3), .val (.int p4), .val (.int p5), .val (.int p6), .val (.int x101), .val (.int x103), .val (.int x105), .val (.int x107), .val (.ref b108), .unset, .unset, .unset, .unset, .unset] [(.int (5 : Int32))]))
  obtain ⟨T110, h110, k110, X110, e110, E110, A110, B110, st110⟩ := newPE X108 hx hZ (hw _ (List.mem_of_getElem? (i := 5) rfl)) e108 (g := (mkF m 29 #[.val (.int p1), .val (.int p2), .val (.int p3), .val (.int p4), .val (.int p5), .val (.int p6), .val (.int x101), .val (.int x103), .val (.int x105), .val (.int x107), .val (.ref b108), .unset, .unset, .unset, .unset, .unset] [(.int (5 : Int32))])) rfl (hb hby at_29) rfl (by decide) (cap := 5) (by decide) (by decide) (by decide) (by decide) (ad := "[I") (by decide)
  obtain ⟨b110, gq110⟩ : ∃ z, z = h108.size := ⟨_, rfl⟩
  rw [← gq110] at A110 B110 st110
  have ne111 : b108 ≠ b110 := Nat.ne_of_lt (Nat.lt_of_lt_of_le B108.lt (Nat.le_of_eq gq110.symm))
  have f112 : Exa Z h110 b108 "[I" := B108.ext E110
  have f113 : Ax Z h110 b108 .int [(.int (0 : Int32)), (.int (0 : Int32)), (.int (0 : Int32)), (.int (0 : Int32)), (.int (0 : Int32))] := f109.ext E110
  have g_b110 : n0 ≤ b110 := Nat.le_trans Z108 (Nat.le_of_eq gq110.symm)
  have Z110 : n0 ≤ h110.size := Nat.le_trans Z108 E110.1
  have f114 : Ax Z h110 b110 .int [(.int (0 : Int32)), (.int (0 : Int32)), (.int (0 : Int32)), (.int (0 : Int32)), (.int (0 : Int32))] := Ax.new (ty := .int) (i := 5) A110 (by decide)
  refine Done.step st110 ?_
  show Done p e below s _ _ _ (T110.setTop (mkF m 31 #[.val (.int p1), .val (.int p2), .val (.int p3), .val (.int p4), .val (.int p5), .val (.int p6), .val (.int x101), .val (.int x103), .val (.int x105), .val (.int x107), .val (.ref b108), .unset, .unset, .unset, .unset, .unset] [(.ref b110)]))
  refine Done.step (fun t k => XS.astore X110.here hx rfl (hb hby at_31) rfl rfl (l' := #[.val (.int p1), .val (.int p2), .val (.int p3), .val (.int p4), .val (.int p5), .val (.int p6), .val (.int x101), .val (.int x103), .val (.int x105), .val (.int x107), .val (.ref b108), .val (.ref b110), .unset, .unset, .unset, .unset]) rfl k) ?_
  show Done p e below s _ _ _ (T110.setTop (mkF m 33 #[.val (.int p1), .val (.int p2), .val (.int p3), .val (.int p4), .val (.int p5), .val (.int p6), .val (.int x101), .val (.int x103), .val (.int x105), .val (.int x107), .val (.ref b108), .val (.ref b110), .unset, .unset, .unset, .unset] []))
  refine Done.step (fun t k => XS.iconst X110.here hx rfl (hb hby at_33) k) ?_
  show Done p e below s _ _ _ (T110.setTop (mkF m 34 #[.val (.int p1), .val (.int p2), .val (.int p3), .val (.int p4), .val (.int p5), .val (.int p6), .val (.int x101), .val (.int x103), .val (.int x105), .val (.int x107), .val (.ref b108), .val (.ref b110), .unset, .unset, .unset, .unset] [(.int (5 : Int32))]))
  obtain ⟨T115, h115, k115, X115, e115, E115, A115, B115, st115⟩ := newPE X110 hx hZ (hw _ (List.mem_of_getElem? (i := 5) rfl)) e110 (g := (mkF m 34 #[.val (.int p1), .val (.int p2), .val (.int p3), .val (.int p4), .val (.int p5), .val (.int p6), .val (.int x101), .val (.int x103), .val (.int x105), .val (.int x107), .val (.ref b108), .val (.ref b110), .unset, .unset, .unset, .unset] [(.int (5 : Int32))])) rfl (hb hby at_34) rfl (by decide) (cap := 5) (by decide) (by decide) (by decide) (by decide) (ad := "[I") (by decide)
  obtain ⟨b115, gq115⟩ : ∃ z, z = h110.size := ⟨_, rfl⟩
  rw [← gq115] at A115 B115 st115
  have ne116 : b108 ≠ b115 := Nat.ne_of_lt (Nat.lt_of_lt_of_le f112.lt (Nat.le_of_eq gq115.symm))
  have ne117 : b110 ≠ b115 := Nat.ne_of_lt (Nat.lt_of_lt_of_le B110.lt (Nat.le_of_eq gq115.symm))
  have f118 : Exa Z h115 b108 "[I" := f112.ext E115
  have f119 : Ax Z h115 b108 .int [(.int (0 : Int32)), (.int (0 : Int32)), (.int (0 : Int32)), (.int (0 : Int32)), (.int (0 : Int32))] := f113.ext E115
  have f120 : Exa Z h115 b110 "[I" := B110.ext E115
  have f121 : Ax Z h115 b110 .int [(.int (0 : Int32)), (.int (0 : Int32)), (.int (0 : Int32)), (.int (0 : Int32)), (.int (0 : Int32))] := f114.ext E115
  have g_b115 : n0 ≤ b115 := Nat.le_trans Z110 (Nat.le_of_eq gq115.symm)
  have Z115 : n0 ≤ h115.size := Nat.le_trans Z110 E115.1
  have f122 : Ax Z h115 b115 .int [(.int (0 : Int32)), (.int (0 : Int32)), (.int (0 : Int32)), (.int (0 : Int32)), (.int (0 : Int32))] := Ax.new (ty := .int) (i := 5) A115 (by decide)
  refine Done.step st115 ?_
  show Done p e below s _ _ _ (T115.setTop (mkF m 36 #[.val (.int p1), .val (.int p2), .val (.int p3), .val (.int p4), .val (.int p5), .val (.int p6), .val (.int x101), .val (.int x103), .val (.int x105), .val (.int x107), .val (.ref b108), .val (.ref b110), .unset, .unset, .unset, .unset] [(.ref b115)]))
  refine Done.step (fun t k => XS.astore X115.here hx rfl (hb hby at_36) rfl rfl (l' := #[.val (.int p1), .val (.int p2), .val (.int p3), .val (.int p4), .val (.int p5), .val (.int p6), .val (.int x101), .val (.int x103), .val (.int x105), .val (.int x107), .val (.ref b108), .val (.ref b110), .val (.ref b115), .unset, .unset, .unset]) rfl k) ?_
  show Done p e below s _ _ _ (T115.setTop (mkF m 38 #[.val (.int p1), .val (.int p2), .val (.int p3), .val (.int p4), .val (.int p5), .val (.int p6), .val (.int x101), .val (.int x103), .val (.int x105), .val (.int x107), .val (.ref b108), .val (.ref b110), .val (.ref b115), .unset, .unset, .unset] []))
  refine Done.step (fun t k => XS.aload X115.here hx rfl (hb hby at_38) rfl rfl k) ?_
  show Done p e below s _ _ _ (T115.setTop (mkF m 40 #[.val (.int p1), .val (.int p2), .val (.int p3), .val (.int p4), .val (.int p5), .val (.int p6), .val (.int x101), .val (.int x103), .val (.int x105), .val (.int x107), .val (.ref b108), .val (.ref b110), .val (.ref b115), .unset, .unset, .unset] [(.ref b108)]))
  refine Done.step (fun t k => XS.iconst X115.here hx rfl (hb hby at_40) k) ?_
  show Done p e below s _ _ _ (T115.setTop (mkF m 41 #[.val (.int p1), .val (.int p2), .val (.int p3), .val (.int p4), .val (.int p5), .val (.int p6), .val (.int x101), .val (.int x103), .val (.int x105), .val (.int x107), .val (.ref b108), .val (.ref b110), .val (.ref b115), .unset, .unset, .unset] [(.int (0 : Int32)), (.ref b108)]))
  refine Done.step (fun t k => XS.iconst X115.here hx rfl (hb hby at_41) k) ?_
  show Done p e below s _ _ _ (T115.setTop (mkF m 42 #[.val (.int p1), .val (.int p2), .val (.int p3), .val (.int p4), .val (.int p5), .val (.int p6), .val (.int x101), .val (.int x103), .val (.int x105), .val (.int x107), .val (.ref b108), .val (.ref b110), .val (.ref b115), .unset, .unset, .unset] [(.int (1 : Int32)), (.int (0 : Int32)), (.ref b108)]))
  obtain ⟨T123, h123, X123, e123, W123, A123, st123⟩ := stoI X115 hx hZ e115 f119 (j := (0 : Int32)) (by decide) (i := 0) (by decide) (Nat.le_of_ble_eq_true rfl) (g := (mkF m 42 #[.val (.int p1), .val (.int p2), .val (.int p3), .val (.int p4), .val (.int p5), .val (.int p6), .val (.int x101), .val (.int x103), .val (.int x105), .val (.int x107), .val (.ref b108), .val (.ref b110), .val (.ref b115), .unset, .unset, .unset] [(.int (1 : Int32)), (.int (0 : Int32)), (.ref b108)])) rfl rfl (hb hby at_42)
  have f124 : Exa Z h123 b108 "[I" := f118.wr W123
  have f125 : Ax Z h123 b108 .int [(.int (1 : Int32)), (.int (0 : Int32)), (.int (0 : Int32)), (.int (0 : Int32)), (.int (0 : Int32))] := A123
  have f126 : Exa Z h123 b110 "[I" := f120.wr W123
  have f127 : Ax Z h123 b110 .int [(.int (0 : Int32)), (.int (0 : Int32)), (.int (0 : Int32)), (.int (0 : Int32)), (.int (0 : Int32))] := f121.other W123 (Ne.symm ne111)
  have f128 : Exa Z h123 b115 "[I" := B115.wr W123
  have f129 : Ax Z h123 b115 .int [(.int (0 : Int32)), (.int (0 : Int32)), (.int (0 : Int32)), (.int (0 : Int32)), (.int (0 : Int32))] := f122.other W123 (Ne.symm ne116)
  have Z123 : n0 ≤ h123.size := Nat.le_trans Z115 (Keep.of_wr W123).1
  have N123 := Fr.snoc X123 N106 g_b108
  refine Done.step st123 ?_
  show Done p e below s _ _ _ (T123.setTop (mkF m 43 #[.val (.int p1), .val (.int p2), .val (.int p3), .val (.int p4), .val (.int p5), .val (.int p6), .val (.int x101), .val (.int x103), .val (.int x105), .val (.int x107), .val (.ref b108), .val (.ref b110), .val (.ref b115), .unset, .unset, .unset] []))
  refine Done.step (fun t k => XS.aload X123.here hx rfl (hb hby at_43) rfl rfl k) ?_
  show Done p e below s _ _ _ (T123.setTop (mkF m 45 #[.val (.int p1), .val (.int p2), .val (.int p3), .val (.int p4), .val (.int p5), .val (.int p6), .val (.int x101), .val (.int x103), .val (.int x105), .val (.int x107), .val (.ref b108), .val (.ref b110), .val (.ref b115), .unset, .unset, .unset] [(.ref b110)]))
  refine Done.step (fun t k => XS.iconst X123.here hx rfl (hb hby at_45) k) ?_
  show Done p e below s _ _ _ (T123.setTop (mkF m 46 #[.val (.int p1), .val (.int p2), .val (.int p3), .val (.int p4), .val (.int p5), .val (.int p6), .val (.int x101), .val (.int x103), .val (.int x105), .val (.int x107), .val (.ref b108), .val (.ref b110), .val (.ref b115), .unset, .unset, .unset] [(.int (0 : Int32)), (.ref b110)]))
  refine Done.step (fun t k => XS.iconst X123.here hx rfl (hb hby at_46) k) ?_
  show Done p e below s _ _ _ (T123.setTop (mkF m 47 #[.val (.int p1), .val (.int p2), .val (.int p3), .val (.int p4), .val (.int p5), .val (.int p6), .val (.int x101), .val (.int x103), .val (.int x105), .val (.int x107), .val (.ref b108), .val (.ref b110), .val (.ref b115), .unset, .unset, .unset] [(.int (1 : Int32)), (.int (0 : Int32)), (.ref b110)]))
  obtain ⟨T130, h130, X130, e130, W130, A130, st130⟩ := stoI X123 hx hZ e123 f127 (j := (0 : Int32)) (by decide) (i := 0) (by decide) (Nat.le_of_ble_eq_true rfl) (g := (mkF m 47 #[.val (.int p1), .val (.int p2), .val (.int p3), .val (.int p4), .val (.int p5), .val (.int p6), .val (.int x101), .val (.int x103), .val (.int x105), .val (.int x107), .val (.ref b108), .val (.ref b110), .val (.ref b115), .unset, .unset, .unset] [(.int (1 : Int32)), (.int (0 : Int32)), (.ref b110)])) rfl rfl (hb hby at_47)
  have f131 : Exa Z h130 b108 "[I" := f124.wr W130
  have f132 : Ax Z h130 b108 .int [(.int (1 : Int32)), (.int (0 : Int32)), (.int (0 : Int32)), (.int (0 : Int32)), (.int (0 : Int32))] := f125.other W130 ne111
  have f133 : Exa Z h130 b110 "[I" := f126.wr W130
  have f134 : Ax Z h130 b110 .int [(.int (1 : Int32)), (.int (0 : Int32)), (.int (0 : Int32)), (.int (0 : Int32)), (.int (0 : Int32))] := A130
  have f135 : Exa Z h130 b115 "[I" := f128.wr W130
  have f136 : Ax Z h130 b115 .int [(.int (0 : Int32)), (.int (0 : Int32)), (.int (0 : Int32)), (.int (0 : Int32)), (.int (0 : Int32))] := f129.other W130 (Ne.symm ne117)
  have Z130 : n0 ≤ h130.size := Nat.le_trans Z123 (Keep.of_wr W130).1
  have N130 := Fr.snoc X130 N123 g_b110
  refine Done.step st130 ?_
  show Done p e below s _ _ _ (T130.setTop (mkF m 48 #[.val (.int p1), .val (.int p2), .val (.int p3), .val (.int p4), .val (.int p5), .val (.int p6), .val (.int x101), .val (.int x103), .val (.int x105), .val (.int x107), .val (.ref b108), .val (.ref b110), .val (.ref b115), .unset, .unset, .unset] []))
  refine Done.step (fun t k => XS.aload X130.here hx rfl (hb hby at_48) rfl rfl k) ?_
  show Done p e below s _ _ _ (T130.setTop (mkF m 50 #[.val (.int p1), .val (.int p2), .val (.int p3), .val (.int p4), .val (.int p5), .val (.int p6), .val (.int x101), .val (.int x103), .val (.int x105), .val (.int x107), .val (.ref b108), .val (.ref b110), .val (.ref b115), .unset, .unset, .unset] [(.ref b108)]))
  refine Done.step (fun t k => XS.iconst X130.here hx rfl (hb hby at_50) k) ?_
  show Done p e below s _ _ _ (T130.setTop (mkF m 51 #[.val (.int p1), .val (.int p2), .val (.int p3), .val (.int p4), .val (.int p5), .val (.int p6), .val (.int x101), .val (.int x103), .val (.int x105), .val (.int x107), .val (.ref b108), .val (.ref b110), .val (.ref b115), .unset, .unset, .unset] [(.int (4 : Int32)), (.ref b108)]))
  refine Done.step (fun t k => XS.iconst X130.here hx rfl (hb hby at_51) k) ?_
  show Done p e below s _ _ _ (T130.setTop (mkF m 52 #[.val (.int p1), .val (.int p2), .val (.int p3), .val (.int p4), .val (.int p5), .val (.int p6), .val (.int x101), .val (.int x103), .val (.int x105), .val (.int x107), .val (.ref b108), .val (.ref b110), .val (.ref b115), .unset, .unset, .unset] [(.int (1 : Int32)), (.int (4 : Int32)), (.ref b108)]))
  obtain ⟨T137, h137, X137, e137, W137, A137, st137⟩ := stoI X130 hx hZ e130 f132 (j := (4 : Int32)) (by decide) (i := 4) (by decide) (Nat.le_of_ble_eq_true rfl) (g := (mkF m 52 #[.val (.int p1), .val (.int p2), .val (.int p3), .val (.int p4), .val (.int p5), .val (.int p6), .val (.int x101), .val (.int x103), .val (.int x105), .val (.int x107), .val (.ref b108), .val (.ref b110), .val (.ref b115), .unset, .unset, .unset] [(.int (1 : Int32)), (.int (4 : Int32)), (.ref b108)])) rfl rfl (hb hby at_52)
  have f138 : Exa Z h137 b108 "[I" := f131.wr W137
  have f139 : Ax Z h137 b108 .int [(.int (1 : Int32)), (.int (0 : Int32)), (.int (0 : Int32)), (.int (0 : Int32)), (.int (1 : Int32))] := A137
  have f140 : Exa Z h137 b110 "[I" := f133.wr W137
  have f141 : Ax Z h137 b110 .int [(.int (1 : Int32)), (.int (0 : Int32)), (.int (0 : Int32)), (.int (0 : Int32)), (.int (0 : Int32))] := f134.other W137 (Ne.symm ne111)
  have f142 : Exa Z h137 b115 "[I" := f135.wr W137
  have f143 : Ax Z h137 b115 .int [(.int (0 : Int32)), (.int (0 : Int32)), (.int (0 : Int32)), (.int (0 : Int32)), (.int (0 : Int32))] := f136.other W137 (Ne.symm ne116)
  have Z137 : n0 ≤ h137.size := Nat.le_trans Z130 (Keep.of_wr W137).1
  have N137 := Fr.snoc X137 N130 g_b108
  refine Done.step st137 ?_
  show Done p e below s _ _ _ (T137.setTop (mkF m 53 #[.val (.int p1), .val (.int p2), .val (.int p3), .val (.int p4), .val (.int p5), .val (.int p6), .val (.int x101), .val (.int x103), .val (.int x105), .val (.int x107), .val (.ref b108), .val (.ref b110), .val (.ref b115), .unset, .unset, .unset] []))
  refine Done.step (fun t k => XS.aload X137.here hx rfl (hb hby at_53) rfl rfl k) ?_
  show Done p e below s _ _ _ (T137.setTop (mkF m 55 #[.val (.int p1), .val (.int p2), .val (.int p3), .val (.int p4), .val (.int p5), .val (.int p6), .val (.int x101), .val (.int x103), .val (.int x105), .val (.int x107), .val (.ref b108), .val (.ref b110), .val (.ref b115), .unset, .unset, .unset] [(.ref b110)]))
  refine Done.step (fun t k => XS.iconst X137.here hx rfl (hb hby at_55) k) ?_
  show Done p e below s _ _ _ (T137.setTop (mkF m 56 #[.val (.int p1), .val (.int p2), .val (.int p3), .val (.int p4), .val (.int p5), .val (.int p6), .val (.int x101), .val (.int x103), .val (.int x105), .val (.int x107), .val (.ref b108), .val (.ref b110), .val (.ref b115), .unset, .unset, .unset] [(.int (4 : Int32)), (.ref b110)]))
  refine Done.step (fun t k => XS.iconst X137.here hx rfl (hb hby at_56) k) ?_
  show Done p e below s _ _ _ (T137.setTop (mkF m 57 #[.val (.int p1), .val (.int p2), .val (.int p3), .val (.int p4), .val (.int p5), .val (.int p6), .val (.int x101), .val (.int x103), .val (.int x105), .val (.int x107), .val (.ref b108), .val (.ref b110), .val (.ref b115), .unset, .unset, .unset] [(.int (1 : Int32)), (.int (4 : Int32)), (.ref b110)]))
  obtain ⟨T144, h144, X144, e144, W144, A144, st144⟩ := stoI X137 hx hZ e137 f141 (j := (4 : Int32)) (by decide) (i := 4) (by decide) (Nat.le_of_ble_eq_true rfl) (g := (mkF m 57 #[.val (.int p1), .val (.int p2), .val (.int p3), .val (.int p4), .val (.int p5), .val (.int p6), .val (.int x101), .val (.int x103), .val (.int x105), .val (.int x107), .val (.ref b108), .val (.ref b110), .val (.ref b115), .unset, .unset, .unset] [(.int (1 : Int32)), (.int (4 : Int32)), (.ref b110)])) rfl rfl (hb hby at_57)
  have f145 : Exa Z h144 b108 "[I" := f138.wr W144
  have f146 : Ax Z h144 b108 .int [(.int (1 : Int32)), (.int (0 : Int32)), (.int (0 : Int32)), (.int (0 : Int32)), (.int (1 : Int32))] := f139.other W144 ne111
  have f147 : Exa Z h144 b110 "[I" := f140.wr W144
  have f148 : Ax Z h144 b110 .int [(.int (1 : Int32)), (.int (0 : Int32)), (.int (0 : Int32)), (.int (0 : Int32)), (.int (1 : Int32))] := A144
  have f149 : Exa Z h144 b115 "[I" := f142.wr W144
  have f150 : Ax Z h144 b115 .int [(.int (0 : Int32)), (.int (0 : Int32)), (.int (0 : Int32)), (.int (0 : Int32)), (.int (0 : Int32))] := f143.other W144 (Ne.symm ne117)
  have Z144 : n0 ≤ h144.size := Nat.le_trans Z137 (Keep.of_wr W144).1
  have N144 := Fr.snoc X144 N137 g_b110
  refine Done.step st144 ?_
  show Done p e below s _ _ _ (T144.setTop (mkF m 58 #[.val (.int p1), .val (.int p2), .val (.int p3), .val (.int p4), .val (.int p5), .val (.int p6), .val (.int x101), .val (.int x103), .val (.int x105), .val (.int x107), .val (.ref b108), .val (.ref b110), .val (.ref b115), .unset, .unset, .unset] []))
  refine Done.step (fun t k => XS.aload X144.here hx rfl (hb hby at_58) rfl rfl k) ?_
  show Done p e below s _ _ _ (T144.setTop (mkF m 60 #[.val (.int p1), .val (.int p2), .val (.int p3), .val (.int p4), .val (.int p5), .val (.int p6), .val (.int x101), .val (.int x103), .val (.int x105), .val (.int x107), .val (.ref b108), .val (.ref b110), .val (.ref b115), .unset, .unset, .unset] [(.ref b108)]))
  refine Done.step (fun t k => XS.iconst X144.here hx rfl (hb hby at_60) k) ?_
  show Done p e below s _ _ _ (T144.setTop (mkF m 61 #[.val (.int p1), .val (.int p2), .val (.int p3), .val (.int p4), .val (.int p5), .val (.int p6), .val (.int x101), .val (.int x103), .val (.int x105), .val (.int x107), .val (.ref b108), .val (.ref b110), .val (.ref b115), .unset, .unset, .unset] [(.int (1 : Int32)), (.ref b108)]))
  refine Done.step (fun t k => XS.iload X144.here hx rfl (hb hby at_61) rfl k) ?_
  show Done p e below s _ _ _ (T144.setTop (mkF m 63 #[.val (.int p1), .val (.int p2), .val (.int p3), .val (.int p4), .val (.int p5), .val (.int p6), .val (.int x101), .val (.int x103), .val (.int x105), .val (.int x107), .val (.ref b108), .val (.ref b110), .val (.ref b115), .unset, .unset, .unset] [(.int p5), (.int (1 : Int32)), (.ref b108)]))
  refine Done.step (fun t k => XS.iconst X144.here hx rfl (hb hby at_63) k) ?_
  show Done p e below s _ _ _ (T144.setTop (mkF m 64 #[.val (.int p1), .val (.int p2), .val (.int p3), .val (.int p4), .val (.int p5), .val (.int p6), .val (.int x101), .val (.int x103), .val (.int x105), .val (.int x107), .val (.ref b108), .val (.ref b110), .val (.ref b115), .unset, .unset, .unset] [(.int (1 : Int32)), (.int p5), (.int (1 : Int32)), (.ref b108)]))
  refine Done.step (fun t k => XS.iand X144.here hx rfl (hb hby at_64) rfl k) ?_
  show Done p e below s _ _ _ (T144.setTop (mkF m 65 #[.val (.int p1), .val (.int p2), .val (.int p3), .val (.int p4), .val (.int p5), .val (.int p6), .val (.int x101), .val (.int x103), .val (.int x105), .val (.int x107), .val (.ref b108), .val (.ref b110), .val (.ref b115), .unset, .unset, .unset] [(.int (p5 &&& (1 : Int32))), (.int (1 : Int32)), (.ref b108)]))
  refine Done.step (fun t k => XS.iconst X144.here hx rfl (hb hby at_65) k) ?_
  show Done p e below s _ _ _ (T144.setTop (mkF m 66 #[.val (.int p1), .val (.int p2), .val (.int p3), .val (.int p4), .val (.int p5), .val (.int p6), .val (.int x101), .val (.int x103), .val (.int x105), .val (.int x107), .val (.ref b108), .val (.ref b110), .val (.ref b115), .unset, .unset, .unset] [(.int (1 : Int32)), (.int (p5 &&& (1 : Int32))), (.int (1 : Int32)), (.ref b108)]))
  refine Done.step (fun t k => XS.iadd X144.here hx rfl (hb hby at_66) rfl k) ?_
  show Done p e below s _ _ _ (T144.setTop (mkF m 67 #[.val (.int p1), .val (.int p2), .val (.int p3), .val (.int p4), .val (.int p5), .val (.int p6), .val (.int x101), .val (.int x103), .val (.int x105), .val (.int x107), .val (.ref b108), .val (.ref b110), .val (.ref b115), .unset, .unset, .unset] [(.int ((p5 &&& (1 : Int32)) + (1 : Int32))), (.int (1 : Int32)), (.ref b108)]))
  generalize df1 : ((p5 &&& (1 : Int32)) + (1 : Int32)) = f1
  show Done p e below s _ _ _ (T144.setTop (mkF m 67 #[.val (.int p1), .val (.int p2), .val (.int p3), .val (.int p4), .val (.int p5), .val (.int p6), .val (.int x101), .val (.int x103), .val (.int x105), .val (.int x107), .val (.ref b108), .val (.ref b110), .val (.ref b115), .unset, .unset, .unset] [(.int f1), (.int (1 : Int32)), (.ref b108)]))
  have hf1 := own_e _ _ df1
  obtain ⟨T151, h151, X151, e151, W151, A151, st151⟩ := stoI X144 hx hZ e144 f146 (j := (1 : Int32)) (by decide) (i := 1) (by decide) (Nat.le_of_ble_eq_true rfl) (g := (mkF m 67 #[.val (.int p1), .val (.int p2), .val (.int p3), .val (.int p4), .val (.int p5), .val (.int p6), .val (.int x101), .val (.int x103), .val (.int x105), .val (.int x107), .val (.ref b108), .val (.ref b110), .val (.ref b115), .unset, .unset, .unset] [(.int f1), (.int (1 : Int32)), (.ref b108)])) rfl rfl (hb hby at_67)
  have f152 : Exa Z h151 b108 "[I" := f145.wr W151
  have f153 : Ax Z h151 b108 .int [(.int (1 : Int32)), (.int f1), (.int (0 : Int32)), (.int (0 : Int32)), (.int (1 : Int32))] := A151
  have f154 : Exa Z h151 b110 "[I" := f147.wr W151
  have f155 : Ax Z h151 b110 .int [(.int (1 : Int32)), (.int (0 : Int32)), (.int (0 : Int32)), (.int (0 : Int32)), (.int (1 : Int32))] := f148.other W151 (Ne.symm ne111)
  have f156 : Exa Z h151 b115 "[I" := f149.wr W151
  have f157 : Ax Z h151 b115 .int [(.int (0 : Int32)), (.int (0 : Int32)), (.int (0 : Int32)), (.int (0 : Int32)), (.int (0 : Int32))] := f150.other W151 (Ne.symm ne116)
  have Z151 : n0 ≤ h151.size := Nat.le_trans Z144 (Keep.of_wr W151).1
  have N151 := Fr.snoc X151 N144 g_b108
  refine Done.step st151 ?_
  show Done p e below s _ _ _ (T151.setTop (mkF m 68 #[.val (.int p1), .val (.int p2), .val (.int p3), .val (.int p4), .val (.int p5), .val (.int p6), .val (.int x101), .val (.int x103), .val (.int x105), .val (.int x107), .val (.ref b108), .val (.ref b110), .val (.ref b115), .unset, .unset, .unset] []))
  refine Done.step (fun t k => XS.aload X151.here hx rfl (hb hby at_68) rfl rfl k) ?_
  show Done p e below s _ _ _ (T151.setTop (mkF m 70 #[.val (.int p1), .val (.int p2), .val (.int p3), .val (.int p4), .val (.int p5), .val (.int p6), .val (.int x101), .val (.int x103), .val (.int x105), .val (.int x107), .val (.ref b108), .val (.ref b110), .val (.ref b115), .unset, .unset, .unset] [(.ref b110)]))
  refine Done.step (fun t k => XS.iconst X151.here hx rfl (hb hby at_70) k) ?_
  show Done p e below s _ _ _ (T151.setTop (mkF m 71 #[.val (.int p1), .val (.int p2), .val (.int p3), .val (.int p4), .val (.int p5), .val (.int p6), .val (.int x101), .val (.int x103), .val (.int x105), .val (.int x107), .val (.ref b108), .val (.ref b110), .val (.ref b115), .unset, .unset, .unset] [(.int (1 : Int32)), (.ref b110)]))
  refine Done.step (fun t k => XS.iload X151.here hx rfl (hb hby at_71) rfl k) ?_
  show Done p e below s _ _ _ (T151.setTop (mkF m 73 #[.val (.int p1), .val (.int p2), .val (.int p3), .val (.int p4), .val (.int p5), .val (.int p6), .val (.int x101), .val (.int x103), .val (.int x105), .val (.int x107), .val (.ref b108), .val (.ref b110), .val (.ref b115), .unset, .unset, .unset] [(.int p5), (.int (1 : Int32)), (.ref b110)]))
  refine Done.step (fun t k => XS.iconst X151.here hx rfl (hb hby at_73) k) ?_
  show Done p e below s _ _ _ (T151.setTop (mkF m 74 #[.val (.int p1), .val (.int p2), .val (.int p3), .val (.int p4), .val (.int p5), .val (.int p6), .val (.int x101), .val (.int x103), .val (.int x105), .val (.int x107), .val (.ref b108), .val (.ref b110), .val (.ref b115), .unset, .unset, .unset] [(.int (1 : Int32)), (.int p5), (.int (1 : Int32)), (.ref b110)]))
  refine Done.step (fun t k => XS.ishr X151.here hx rfl (hb hby at_74) rfl k) ?_
  show Done p e below s _ _ _ (T151.setTop (mkF m 75 #[.val (.int p1), .val (.int p2), .val (.int p3), .val (.int p4), .val (.int p5), .val (.int p6), .val (.int x101), .val (.int x103), .val (.int x105), .val (.int x107), .val (.ref b108), .val (.ref b110), .val (.ref b115), .unset, .unset, .unset] [(.int (p5 >>> ((1 : Int32) &&& 31))), (.int (1 : Int32)), (.ref b110)]))
  refine Done.step (fun t k => XS.iconst X151.here hx rfl (hb hby at_75) k) ?_
  show Done p e below s _ _ _ (T151.setTop (mkF m 76 #[.val (.int p1), .val (.int p2), .val (.int p3), .val (.int p4), .val (.int p5), .val (.int p6), .val (.int x101), .val (.int x103), .val (.int x105), .val (.int x107), .val (.ref b108), .val (.ref b110), .val (.ref b115), .unset, .unset, .unset] [(.int (1 : Int32)), (.int (p5 >>> ((1 : Int32) &&& 31))), (.int (1 : Int32)), (.ref b110)]))
  refine Done.step (fun t k => XS.iand X151.here hx rfl (hb hby at_76) rfl k) ?_
  show Done p e below s _ _ _ (T151.setTop (mkF m 77 #[.val (.int p1), .val (.int p2), .val (.int p3), .val (.int p4), .val (.int p5), .val (.int p6), .val (.int x101), .val (.int x103), .val (.int x105), .val (.int x107), .val (.ref b108), .val (.ref b110), .val (.ref b115), .unset, .unset, .unset] [(.int ((p5 >>> ((1 : Int32) &&& 31)) &&& (1 : Int32))), (.int (1 : Int32)), (.ref b110)]))
  refine Done.step (fun t k => XS.iconst X151.here hx rfl (hb hby at_77) k) ?_
  show Done p e below s _ _ _ (T151.setTop (mkF m 78 #[.val (.int p1), .val (.int p2), .val (.int p3), .val (.int p4), .val (.int p5), .val (.int p6), .val (.int x101), .val (.int x103), .val (.int x105), .val (.int x107), .val (.ref b108), .val (.ref b110), .val (.ref b115), .unset, .unset, .unset] [(.int (1 : Int32)), (.int ((p5 >>> ((1 : Int32) &&& 31)) &&& (1 : Int32))), (.int (1 : Int32)), (.ref b110)]))
  refine Done.step (fun t k => XS.iadd X151.here hx rfl (hb hby at_78) rfl k) ?_
  show Done p e below s _ _ _ (T151.setTop (mkF m 79 #[.val (.int p1), .val (.int p2), .val (.int p3), .val (.int p4), .val (.int p5), .val (.int p6), .val (.int x101), .val (.int x103), .val (.int x105), .val (.int x107), .val (.ref b108), .val (.ref b110), .val (.ref b115), .unset, .unset, .unset] [(.int (((p5 >>> ((1 : Int32) &&& 31)) &&& (1 : Int32)) + (1 : Int32))), (.int (1 : Int32)), (.ref b110)]))
  generalize ds1 : (((p5 >>> ((1 : Int32) &&& 31)) &&& (1 : Int32)) + (1 : Int32)) = s1
  show Done p e below s _ _ _ (T151.setTop (mkF m 79 #[.val (.int p1), .val (.int p2), .val (.int p3), .val (.int p4), .val (.int p5), .val (.int p6), .val (.int x101), .val (.int x103), .val (.int x105), .val (.int x107), .val (.ref b108), .val (.ref b110), .val (.ref b115), .unset, .unset, .unset] [(.int s1), (.int (1 : Int32)), (.ref b110)]))
  have hs1 := own_e _ _ ds1
  obtain ⟨T158, h158, X158, e158, W158, A158, st158⟩ := stoI X151 hx hZ e151 f155 (j := (1 : Int32)) (by decide) (i := 1) (by decide) (Nat.le_of_ble_eq_true rfl) (g := (mkF m 79 #[.val (.int p1), .val (.int p2), .val (.int p3), .val (.int p4), .val (.int p5), .val (.int p6), .val (.int x101), .val (.int x103), .val (.int x105), .val (.int x107), .val (.ref b108), .val (.ref b110), .val (.ref b115), .unset, .unset, .unset] [(.int s1), (.int (1 : Int32)), (.ref b110)])) rfl rfl (hb hby at_79)
  have f159 : Exa Z h158 b108 "[I" := f152.wr W158
  have f160 : Ax Z h158 b108 .int [(.int (1 : Int32)), (.int f1), (.int (0 : Int32)), (.int (0 : Int32)), (.int (1 : Int32))] := f153.other W158 ne111
  have f161 : Exa Z h158 b110 "[I" := f154.wr W158
  have f162 : Ax Z h158 b110 .int [(.int (1 : Int32)), (.int s1), (.int (0 : Int32)), (.int (0 : Int32)), (.int (1 : Int32))] := A158
  have f163 : Exa Z h158 b115 "[I" := f156.wr W158
  have f164 : Ax Z h158 b115 .int [(.int (0 : Int32)), (.int (0 : Int32)), (.int (0 : Int32)), (.int (0 : Int32)), (.int (0 : Int32))] := f157.other W158 (Ne.symm ne117)
  have Z158 : n0 ≤ h158.size := Nat.le_trans Z151 (Keep.of_wr W158).1
  have N158 := Fr.snoc X158 N151 g_b110
  refine Done.step st158 ?_
  show Done p e below s _ _ _ (T158.setTop (mkF m 80 #[.val (.int p1), .val (.int p2), .val (.int p3), .val (.int p4), .val (.int p5), .val (.int p6), .val (.int x101), .val (.int x103), .val (.int x105), .val (.int x107), .val (.ref b108), .val (.ref b110), .val (.ref b115), .unset, .unset, .unset] []))
  refine Done.step (fun t k => XS.aload X158.here hx rfl (hb hby at_80) rfl rfl k) ?_
  show Done p e below s _ _ _ (T158.setTop (mkF m 82 #[.val (.int p1), .val (.int p2), .val (.int p3), .val (.int p4), .val (.int p5), .val (.int p6), .val (.int x101), .val (.int x103), .val (.int x105), .val (.int x107), .val (.ref b108), .val (.ref b110), .val (.ref b115), .unset, .unset, .unset] [(.ref b108)]))
  refine Done.step (fun t k => XS.iconst X158.here hx rfl (hb hby at_82) k) ?_
  show Done p e below s _ _ _ (T158.setTop (mkF m 83 #[.val (.int p1), .val (.int p2), .val (.int p3), .val (.int p4), .val (.int p5), .val (.int p6), .val (.int x101), .val (.int x103), .val (.int x105), .val (.int x107), .val (.ref b108), .val (.ref b110), .val (.ref b115), .unset, .unset, .unset] [(.int (2 : Int32)), (.ref b108)]))
  refine Done.step (fun t k => XS.iload X158.here hx rfl (hb hby at_83) rfl k) ?_
  show Done p e below s _ _ _ (T158.setTop (mkF m 85 #[.val (.int p1), .val (.int p2), .val (.int p3), .val (.int p4), .val (.int p5), .val (.int p6), .val (.int x101), .val (.int x103), .val (.int x105), .val (.int x107), .val (.ref b108), .val (.ref b110), .val (.ref b115), .unset, .unset, .unset] [(.int p5), (.int (2 : Int32)), (.ref b108)]))
  refine Done.step (fun t k => XS.iconst X158.here hx rfl (hb hby at_85) k) ?_
  show Done p e below s _ _ _ (T158.setTop (mkF m 86 #[.val (.int p1), .val (.int p2), .val (.int p3), .val (.int p4), .val (.int p5), .val (.int p6), .val (.int x101), .val (.int x103), .val (.int x105), .val (.int x107), .val (.ref b108), .val (.ref b110), .val (.ref b115), .unset, .unset, .unset] [(.int (2 : Int32)), (.int p5), (.int (2 : Int32)), (.ref b108)]))
  refine Done.step (fun t k => XS.ishr X158.here hx rfl (hb hby at_86) rfl k) ?_
  show Done p e below s _ _ _ (T158.setTop (mkF m 87 #[.val (.int p1), .val (.int p2), .val (.int p3), .val (.int p4), .val (.int p5), .val (.int p6), .val (.int x101), .val (.int x103), .val (.int x105), .val (.int x107), .val (.ref b108), .val (.ref b110), .val (.ref b115), .unset, .unset, .unset] [(.int (p5 >>> ((2 : Int32) &&& 31))), (.int (2 : Int32)), (.ref b108)]))
  refine Done.step (fun t k => XS.iconst X158.here hx rfl (hb hby at_87) k) ?_
  show Done p e below s _ _ _ (T158.setTop (mkF m 88 #[.val (.int p1), .val (.int p2), .val (.int p3), .val (.int p4), .val (.int p5), .val (.int p6), .val (.int x101), .val (.int x103), .val (.int x105), .val (.int x107), .val (.ref b108), .val (.ref b110), .val (.ref b115), .unset, .unset, .unset] [(.int (1 : Int32)), (.int (p5 >>> ((2 : Int32) &&& 31))), (.int (2 : Int32)), (.ref b108)]))
  refine Done.step (fun t k => XS.iand X158.here hx rfl (hb hby at_88) rfl k) ?_
  show Done p e below s _ _ _ (T158.setTop (mkF m 89 #[.val (.int p1), .val (.int p2), .val (.int p3), .val (.int p4), .val (.int p5), .val (.int p6), .val (.int x101), .val (.int x103), .val (.int x105), .val (.int x107), .val (.ref b108), .val (.ref b110), .val (.ref b115), .unset, .unset, .unset] [(.int ((p5 >>> ((2 : Int32) &&& 31)) &&& (1 : Int32))), (.int (2 : Int32)), (.ref b108)]))
  refine Done.step (fun t k => XS.iconst X158.here hx rfl (hb hby at_89) k) ?_
  show Done p e below s _ _ _ (T158.setTop (mkF m 90 #[.val (.int p1), .val (.int p2), .val (.int p3), .val (.int p4), .val (.int p5), .val (.int p6), .val (.int x101), .val (.int x103), .val (.int x105), .val (.int x107), .val (.ref b108), .val (.ref b110), .val (.ref b115), .unset, .unset, .unset] [(.int (1 : Int32)), (.int ((p5 >>> ((2 : Int32) &&& 31)) &&& (1 : Int32))), (.int (2 : Int32)), (.ref b108)]))
  refine Done.step (fun t k => XS.iadd X158.here hx rfl (hb hby at_90) rfl k) ?_
  show Done p e below s _ _ _ (T158.setTop (mkF m 91 #[.val (.int p1), .val (.int p2), .val (.int p3), .val (.int p4), .val (.int p5), .val (.int p6), .val (.int x101), .val (.int x103), .val (.int x105), .val (.int x107), .val (.ref b108), .val (.ref b110), .val (.ref b115), .unset, .unset, .unset] [(.int (((p5 >>> ((2 : Int32) &&& 31)) &&& (1 : Int32)) + (1 : Int32))), (.int (2 : Int32)), (.ref b108)]))
  generalize df2 : (((p5 >>> ((2 : Int32) &&& 31)) &&& (1 : Int32)) + (1 : Int32)) = f2
  show Done p e below s _ _ _ (T158.setTop (mkF m 91 #[.val (.int p1), .val (.int p2), .val (.int p3), .val (.int p4), .val (.int p5), .val (.int p6), .val (.int x101), .val (.int x103), .val (.int x105), .val (.int x107), .val (.ref b108), .val (.ref b110), .val (.ref b115), .unset, .unset, .unset] [(.int f2), (.int (2 : Int32)), (.ref b108)]))
  have hf2 := own_e _ _ df2
  obtain ⟨T165, h165, X165, e165, W165, A165, st165⟩ := stoI X158 hx hZ e158 f160 (j := (2 : Int32)) (by decide) (i := 2) (by decide) (Nat.le_of_ble_eq_true rfl) (g := (mkF m 91 #[.val (.int p1), .val (.int p2), .val (.int p3), .val (.int p4), .val (.int p5), .val (.int p6), .val (.int x101), .val (.int x103), .val (.int x105), .val (.int x107), .val (.ref b108), .val (.ref b110), .val (.ref b115), .unset, .unset, .unset] [(.int f2), (.int (2 : Int32)), (.ref b108)])) rfl rfl (hb hby at_91)
  have f166 : Exa Z h165 b108 "[I" := f159.wr W165
  have f167 : Ax Z h165 b108 .int [(.int (1 : Int32)), (.int f1), (.int f2), (.int (0 : Int32)), (.int (1 : Int32))] := A165
  have f168 : Exa Z h165 b110 "[I" := f161.wr W165
  have f169 : Ax Z h165 b110 .int [(.int (1 : Int32)), (.int s1), (.int (0 : Int32)), (.int (0 : Int32)), (.int (1 : Int32))] := f162.other W165 (Ne.symm ne111)
  have f170 : Exa Z h165 b115 "[I" := f163.wr W165
  have f171 : Ax Z h165 b115 .int [(.int (0 : Int32)), (.int (0 : Int32)), (.int (0 : Int32)), (.int (0 : Int32)), (.int (0 : Int32))] := f164.other W165 (Ne.symm ne116)
  have Z165 : n0 ≤ h165.size := Nat.le_trans Z158 (Keep.of_wr W165).1
  have N165 := Fr.snoc X165 N158 g_b108
  refine Done.step st165 ?_
  show Done p e below s _ _ _ (T165.setTop (mkF m 92 #[.val (.int p1), .val (.int p2), .val (.int p3), .val (.int p4), .val (.int p5), .val (.int p6), .val (.int x101), .val (.int x103), .val (.int x105), .val (.int x107), .val (.ref b108), .val (.ref b110), .val (.ref b115), .unset, .unset, .unset] []))
  refine Done.step (fun t k => XS.aload X165.here hx rfl (hb hby at_92) rfl rfl k) ?_
  show Done p e below s _ _ _ (T165.setTop (mkF m 94 #[.val (.int p1), .val (.int p2), .val (.int p3), .val (.int p4), .val (.int p5), .val (.int p6), .val (.int x101), .val (.int x103), .val (.int x105), .val (.int x107), .val (.ref b108), .val (.ref b110), .val (.ref b115), .unset, .unset, .unset] [(.ref b110)]))
  refine Done.step (fun t k => XS.iconst X165.here hx rfl (hb hby at_94) k) ?_
  show Done p e below s _ _ _ (T165.setTop (mkF m 95 #[.val (.int p1), .val (.int p2), .val (.int p3), .val (.int p4), .val (.int p5), .val (.int p6), .val (.int x101), .val (.int x103), .val (.int x105), .val (.int x107), .val (.ref b108), .val (.ref b110), .val (.ref b115), .unset, .unset, .unset] [(.int (2 : Int32)), (.ref b110)]))
  refine Done.step (fun t k => XS.iload X165.here hx rfl (hb hby at_95) rfl k) ?_
  show Done p e below s _ _ _ (T165.setTop (mkF m 97 #[.val (.int p1), .val (.int p2), .val (.int p3), .val (.int p4), .val (.int p5), .val (.int p6), .val (.int x101), .val (.int x103), .val (.int x105), .val (.int x107), .val (.ref b108), .val (.ref b110), .val (.ref b115), .unset, .unset, .unset] [(.int p5), (.int (2 : Int32)), (.ref b110)]))
  refine Done.step (fun t k => XS.iconst X165.here hx rfl (hb hby at_97) k) ?_
  show Done p e below s _ _ _ (T165.setTop (mkF m 98 #[.val (.int p1), .val (.int p2), .val (.int p3), .val (.int p4), .val (.int p5), .val (.int p6), .val (.int x101), .val (.int x103), .val (.int x105), .val (.int x107), .val (.ref b108), .val (.ref b110), .val (.ref b115), .unset, .unset, .unset] [(.int (3 : Int32)), (.int p5), (.int (2 : Int32)), (.ref b110)]))
  refine Done.step (fun t k => XS.ishr X165.here hx rfl (hb hby at_98) rfl k) ?_
  show Done p e below s _ _ _ (T165.setTop (mkF m 99 #[.val (.int p1), .val (.int p2), .val (.int p3), .val (.int p4), .val (.int p5), .val (.int p6), .val (.int x101), .val (.int x103), .val (.int x105), .val (.int x107), .val (.ref b108), .val (.ref b110), .val (.ref b115), .unset, .unset, .unset] [(.int (p5 >>> ((3 : Int32) &&& 31))), (.int (2 : Int32)), (.ref b110)]))
  refine Done.step (fun t k => XS.iconst X165.here hx rfl (hb hby at_99) k) ?_
  show Done p e below s _ _ _ (T165.setTop (mkF m 100 #[.val (.int p1), .val (.int p2), .val (.int p3), .val (.int p4), .val (.int p5), .val (.int p6), .val (.int x101), .val (.int x103), .val (.int x105), .val (.int x107), .val (.ref b108), .val (.ref b110), .val (.ref b115), .unset, .unset, .unset] [(.int (1 : Int32)), (.int (p5 >>> ((3 : Int32) &&& 31))), (.int (2 : Int32)), (.ref b110)]))
  refine Done.step (fun t k => XS.iand X165.here hx rfl (hb hby at_100) rfl k) ?_
  show Done p e below s _ _ _ (T165.setTop (mkF m 101 #[.val (.int p1), .val (.int p2), .val (.int p3), .val (.int p4), .val (.int p5), .val (.int p6), .val (.int x101), .val (.int x103), .val (.int x105), .val (.int x107), .val (.ref b108), .val (.ref b110), .val (.ref b115), .unset, .unset, .unset] [(.int ((p5 >>> ((3 : Int32) &&& 31)) &&& (1 : Int32))), (.int (2 : Int32)), (.ref b110)]))
  refine Done.step (fun t k => XS.iconst X165.here hx rfl (hb hby at_101) k) ?_
  show Done p e below s _ _ _ (T165.setTop (mkF m 102 #[.val (.int p1), .val (.int p2), .val (.int p3), .val (.int p4), .val (.int p5), .val (.int p6), .val (.int x101), .val (.int x103), .val (.int x105), .val (.int x107), .val (.ref b108), .val (.ref b110), .val (.ref b115), .unset, .unset, .unset] [(.int (1 : Int32)), (.int ((p5 >>> ((3 : Int32) &&& 31)) &&& (1 : Int32))), (.int (2 : Int32)), (.ref b110)]))
  refine Done.step (fun t k => XS.iadd X165.here hx rfl (hb hby at_102) rfl k) ?_
  show Done p e below s _ _ _ (T165.setTop (mkF m 103 #[.val (.int p1), .val (.int p2), .val (.int p3), .val (.int p4), .val (.int p5), .val (.int p6), .val (.int x101), .val (.int x103), .val (.int x105), .val (.int x107), .val (.ref b108), .val (.ref b110), .val (.ref b115), .unset, .unset, .unset] [(.int (((p5 >>> ((3 : Int32) &&& 31)) &&& (1 : Int32)) + (1 : Int32))), (.int (2 : Int32)), (.ref b110)]))
  generalize ds2 : (((p5 >>> ((3 : Int32) &&& 31)) &&& (1 : Int32)) + (1 : Int32)) = s2
  show Done p e below s _ _ _ (T165.setTop (mkF m 103 #[.val (.int p1), .val (.int p2), .val (.int p3), .val (.int p4), .val (.int p5), .val (.int p6), .val (.int x101), .val (.int x103), .val (.int x105), .val (.int x107), .val (.ref b108), .val (.ref b110), .val (.ref b115), .unset, .unset, .unset] [(.int s2), (.int (2 : Int32)), (.ref b110)]))
  have hs2 := own_e _ _ ds2
  obtain ⟨T172, h172, X172, e172, W172, A172, st172⟩ := stoI X165 hx hZ e165 f169 (j := (2 : Int32)) (by decide) (i := 2) (by decide) (Nat.le_of_ble_eq_true rfl) (g := (mkF m 103 #[.val (.int p1), .val (.int p2), .val (.int p3), .val (.int p4), .val (.int p5), .val (.int p6), .val (.int x101), .val (.int x103), .val (.int x105), .val (.int x107), .val (.ref b108), .val (.ref b110), .val (.ref b115), .unset, .unset, .unset] [(.int s2), (.int (2 : Int32)), (.ref b110)])) rfl rfl (hb hby at_103)
  have f173 : Exa Z h172 b108 "[I" := f166.wr W172
  have f174 : Ax Z h172 b108 .int [(.int (1 : Int32)), (.int f1), (.int f2), (.int (0 : Int32)), (.int (1 : Int32))] := f167.other W172 ne111
  have f175 : Exa Z h172 b110 "[I" := f168.wr W172
  have f176 : Ax Z h172 b110 .int [(.int (1 : Int32)), (.int s1), (.int s2), (.int (0 : Int32)), (.int (1 : Int32))] := A172
  have f177 : Exa Z h172 b115 "[I" := f170.wr W172
  have f178 : Ax Z h172 b115 .int [(.int (0 : Int32)), (.int (0 : Int32)), (.int (0 : Int32)), (.int (0 : Int32)), (.int (0 : Int32))] := f171.other W172 (Ne.symm ne117)
  have Z172 : n0 ≤ h172.size := Nat.le_trans Z165 (Keep.of_wr W172).1
  have N172 := Fr.snoc X172 N165 g_b110
  refine Done.step st172 ?_
  show Done p e below s _ _ _ (T172.setTop (mkF m 104 #[.val (.int p1), .val (.int p2), .val (.int p3), .val (.int p4), .val (.int p5), .val (.int p6), .val (.int x101), .val (.int x103), .val (.int x105), .val (.int x107), .val (.ref b108), .val (.ref b110), .val (.ref b115), .unset, .unset, .unset] []))
  refine Done.step (fun t k => XS.aload X172.here hx rfl (hb hby at_104) rfl rfl k) ?_
  show Done p e below s _ _ _ (T172.setTop (mkF m 106 #[.val (.int p1), .val (.int p2), .val (.int p3), .val (.int p4), .val (.int p5), .val (.int p6), .val (.int x101), .val (.int x103), .val (.int x105), .val (.int x107), .val (.ref b108), .val (.ref b110), .val (.ref b115), .unset, .unset, .unset] [(.ref b108)]))
  refine Done.step (fun t k => XS.iconst X172.here hx rfl (hb hby at_106) k) ?_
  show Done p e below s _ _ _ (T172.setTop (mkF m 107 #[.val (.int p1), .val (.int p2), .val (.int p3), .val (.int p4), .val (.int p5), .val (.int p6), .val (.int x101), .val (.int x103), .val (.int x105), .val (.int x107), .val (.ref b108), .val (.ref b110), .val (.ref b115), .unset, .unset, .unset] [(.int (3 : Int32)), (.ref b108)]))
  refine Done.step (fun t k => XS.iload X172.here hx rfl (hb hby at_107) rfl k) ?_
  show Done p e below s _ _ _ (T172.setTop (mkF m 109 #[.val (.int p1), .val (.int p2), .val (.int p3), .val (.int p4), .val (.int p5), .val (.int p6), .val (.int x101), .val (.int x103), .val (.int x105), .val (.int x107), .val (.ref b108), .val (.ref b110), .val (.ref b115), .unset, .unset, .unset] [(.int p5), (.int (3 : Int32)), (.ref b108)]))
  refine Done.step (fun t k => XS.iconst X172.here hx rfl (hb hby at_109) k) ?_
  show Done p e below s _ _ _ (T172.setTop (mkF m 110 #[.val (.int p1), .val (.int p2), .val (.int p3), .val (.int p4), .val (.int p5), .val (.int p6), .val (.int x101), .val (.int x103), .val (.int x105), .val (.int x107), .val (.ref b108), .val (.ref b110), .val (.ref b115), .unset, .unset, .unset] [(.int (4 : Int32)), (.int p5), (.int (3 : Int32)), (.ref b108)]))
  refine Done.step (fun t k => XS.ishr X172.here hx rfl (hb hby at_110) rfl k) ?_
  show Done p e below s _ _ _ (T172.setTop (mkF m 111 #[.val (.int p1), .val (.int p2), .val (.int p3), .val (.int p4), .val (.int p5), .val (.int p6), .val (.int x101), .val (.int x103), .val (.int x105), .val (.int x107), .val (.ref b108), .val (.ref b110), .val (.ref b115), .unset, .unset, .unset] [(.int (p5 >>> ((4 : Int32) &&& 31))), (.int (3 : Int32)), (.ref b108)]))
  refine Done.step (fun t k => XS.iconst X172.here hx rfl (hb hby at_111) k) ?_
  show Done p e below s _ _ _ (T172.setTop (mkF m 112 #[.val (.int p1), .val (.int p2), .val (.int p3), .val (.int p4), .val (.int p5), .val (.int p6), .val (.int x101), .val (.int x103), .val (.int x105), .val (.int x107), .val (.ref b108), .val (.ref b110), .val (.ref b115), .unset, .unset, .unset] [(.int (1 : Int32)), (.int (p5 >>> ((4 : Int32) &&& 31))), (.int (3 : Int32)), (.ref b108)]))
  refine Done.step (fun t k => XS.iand X172.here hx rfl (hb hby at_112) rfl k) ?_
  show Done p e below s _ _ _ (T172.setTop (mkF m 113 #[.val (.int p1), .val (.int p2), .val (.int p3), .val (.int p4), .val (.int p5), .val (.int p6), .val (.int x101), .val (.int x103), .val (.int x105), .val (.int x107), .val (.ref b108), .val (.ref b110), .val (.ref b115), .unset, .unset, .unset] [(.int ((p5 >>> ((4 : Int32) &&& 31)) &&& (1 : Int32))), (.int (3 : Int32)), (.ref b108)]))
  refine Done.step (fun t k => XS.iconst X172.here hx rfl (hb hby at_113) k) ?_
  show Done p e below s _ _ _ (T172.setTop (mkF m 114 #[.val (.int p1), .val (.int p2), .val (.int p3), .val (.int p4), .val (.int p5), .val (.int p6), .val (.int x101), .val (.int x103), .val (.int x105), .val (.int x107), .val (.ref b108), .val (.ref b110), .val (.ref b115), .unset, .unset, .unset] [(.int (1 : Int32)), (.int ((p5 >>> ((4 : Int32) &&& 31)) &&& (1 : Int32))), (.int (3 : Int32)), (.ref b108)]))
  refine Done.step (fun t k => XS.iadd X172.here hx rfl (hb hby at_114) rfl k) ?_
  show Done p e below s _ _ _ (T172.setTop (mkF m 115 #[.val (.int p1), .val (.int p2), .val (.int p3), .val (.int p4), .val (.int p5), .val (.int p6), .val (.int x101), .val (.int x103), .val (.int x105), .val (.int x107), .val (.ref b108), .val (.ref b110), .val (.ref b115), .unset, .unset, .unset] [(.int (((p5 >>> ((4 : Int32) &&& 31)) &&& (1 : Int32)) + (1 : Int32))), (.int (3 : Int32)), (.ref b108)]))
  generalize df3 : (((p5 >>> ((4 : Int32) &&& 31)) &&& (1 : Int32)) + (1 : Int32)) = f3
  show Done p e below s _ _ _ (T172.setTop (mkF m 115 #[.val (.int p1), .val (.int p2), .val (.int p3), .val (.int p4), .val (.int p5), .val (.int p6), .val (.int x101), .val (.int x103), .val (.int x105), .val (.int x107), .val (.ref b108), .val (.ref b110), .val (.ref b115), .unset, .unset, .unset] [(.int f3), (.int (3 : Int32)), (.ref b108)]))
  have hf3 := own_e _ _ df3
  obtain ⟨T179, h179, X179, e179, W179, A179, st179⟩ := stoI X172 hx hZ e172 f174 (j := (3 : Int32)) (by decide) (i := 3) (by decide) (Nat.le_of_ble_eq_true rfl) (g := (mkF m 115 #[.val (.int p1), .val (.int p2), .val (.int p3), .val (.int p4), .val (.int p5), .val (.int p6), .val (.int x101), .val (.int x103), .val (.int x105), .val (.int x107), .val (.ref b108), .val (.ref b110), .val (.ref b115), .unset, .unset, .unset] [(.int f3), (.int (3 : Int32)), (.ref b108)])) rfl rfl (hb hby at_115)
  have f180 : Exa Z h179 b108 "[I" := f173.wr W179
  have f181 : Ax Z h179 b108 .int [(.int (1 : Int32)), (.int f1), (.int f2), (.int f3), (.int (1 : Int32))] := A179
  have f182 : Exa Z h179 b110 "[I" := f175.wr W179
  have f183 : Ax Z h179 b110 .int [(.int (1 : Int32)), (.int s1), (.int s2), (.int (0 : Int32)), (.int (1 : Int32))] := f176.other W179 (Ne.symm ne111)
  have f184 : Exa Z h179 b115 "[I" := f177.wr W179
  have f185 : Ax Z h179 b115 .int [(.int (0 : Int32)), (.int (0 : Int32)), (.int (0 : Int32)), (.int (0 : Int32)), (.int (0 : Int32))] := f178.other W179 (Ne.symm ne116)
  have Z179 : n0 ≤ h179.size := Nat.le_trans Z172 (Keep.of_wr W179).1
  have N179 := Fr.snoc X179 N172 g_b108
  refine Done.step st179 ?_
  show Done p e below s _ _ _ (T179.setTop (mkF m 116 #[.val (.int p1), .val (.int p2), .val (.int p3), .val (.int p4), .val (.int p5), .val (.int p6), .val (.int x101), .val (.int x103), .val (.int x105), .val (.int x107), .val (.ref b108), .val (.ref b110), .val (.ref b115), .unset, .unset, .unset] []))
  refine Done.step (fun t k => XS.aload X179.here hx rfl (hb hby at_116) rfl rfl k) ?_
  show Done p e below s _ _ _ (T179.setTop (mkF m 118 #[.val (.int p1), .val (.int p2), .val (.int p3), .val (.int p4), .val (.int p5), .val (.int p6), .val (.int x101), .val (.int x103), .val (.int x105), .val (.int x107), .val (.ref b108), .val (.ref b110), .val (.ref b115), .unset, .unset, .unset] [(.ref b110)]))
  refine Done.step (fun t k => XS.iconst X179.here hx rfl (hb hby at_118) k) ?_
  show Done p e below s _ _ _ (T179.setTop (mkF m 119 #[.val (.int p1), .val (.int p2), .val (.int p3), .val (.int p4), .val (.int p5), .val (.int p6), .val (.int x101), .val (.int x103), .val (.int x105), .val (.int x107), .val (.ref b108), .val (.ref b110), .val (.ref b115), .unset, .unset, .unset] [(.int (3 : Int32)), (.ref b110)]))
  refine Done.step (fun t k => XS.iload X179.here hx rfl (hb hby at_119) rfl k) ?_
  show Done p e below s _ _ _ (T179.setTop (mkF m 121 #[.val (.int p1), .val (.int p2), .val (.int p3), .val (.int p4), .val (.int p5), .val (.int p6), .val (.int x101), .val (.int x103), .val (.int x105), .val (.int x107), .val (.ref b108), .val (.ref b110), .val (.ref b115), .unset, .unset, .unset] [(.int p5), (.int (3 : Int32)), (.ref b110)]))
  refine Done.step (fun t k => XS.iconst X179.here hx rfl (hb hby at_121) k) ?_
  show Done p e below s _ _ _ (T179.setTop (mkF m 122 #[.val (.int p1), .val (.int p2), .val (.int p3), .val (.int p4), .val (.int p5), .val (.int p6), .val (.int x101), .val (.int x103), .val (.int x105), .val (.int x107), .val (.ref b108), .val (.ref b110), .val (.ref b115), .unset, .unset, .unset] [(.int (5 : Int32)), (.int p5), (.int (3 : Int32)), (.ref b110)]))
  refine Done.step (fun t k => XS.ishr X179.here hx rfl (hb hby at_122) rfl k) ?_
  show Done p e below s _ _ _ (T179.setTop (mkF m 123 #[.val (.int p1), .val (.int p2), .val (.int p3), .val (.int p4), .val (.int p5), .val (.int p6), .val (.int x101), .val (.int x103), .val (.int x105), .val (.int x107), .val (.ref b108), .val (.ref b110), .val (.ref b115), .unset, .unset, .unset] [(.int (p5 >>> ((5 : Int32) &&& 31))), (.int (3 : Int32)), (.ref b110)]))
  refine Done.step (fun t k => XS.iconst X179.here hx rfl (hb hby at_123) k) ?_
  show Done p e below s _ _ _ (T179.setTop (mkF m 124 #[.val (.int p1), .val (.int p2), .val (.int p3), .val (.int p4), .val (.int p5), .val (.int p6), .val (.int x101), .val (.int x103), .val (.int x105), .val (.int x107), .val (.ref b108), .val (.ref b110), .val (.ref b115), .unset, .unset, .unset] [(.int (1 : Int32)), (.int (p5 >>> ((5 : Int32) &&& 31))), (.int (3 : Int32)), (.ref b110)]))
  refine Done.step (fun t k => XS.iand X179.here hx rfl (hb hby at_124) rfl k) ?_
  show Done p e below s _ _ _ (T179.setTop (mkF m 125 #[.val (.int p1), .val (.int p2), .val (.int p3), .val (.int p4), .val (.int p5), .val (.int p6), .val (.int x101), .val (.int x103), .val (.int x105), .val (.int x107), .val (.ref b108), .val (.ref b110), .val (.ref b115), .unset, .unset, .unset] [(.int ((p5 >>> ((5 : Int32) &&& 31)) &&& (1 : Int32))), (.int (3 : Int32)), (.ref b110)]))
  refine Done.step (fun t k => XS.iconst X179.here hx rfl (hb hby at_125) k) ?_
  show Done p e below s _ _ _ (T179.setTop (mkF m 126 #[.val (.int p1), .val (.int p2), .val (.int p3), .val (.int p4), .val (.int p5), .val (.int p6), .val (.int x101), .val (.int x103), .val (.int x105), .val (.int x107), .val (.ref b108), .val (.ref b110), .val (.ref b115), .unset, .unset, .unset] [(.int (1 : Int32)), (.int ((p5 >>> ((5 : Int32) &&& 31)) &&& (1 : Int32))), (.int (3 : Int32)), (.ref b110)]))
  refine Done.step (fun t k => XS.iadd X179.here hx rfl (hb hby at_126) rfl k) ?_
  show Done p e below s _ _ _ (T179.setTop (mkF m 127 #[.val (.int p1), .val (.int p2), .val (.int p3), .val (.int p4), .val (.int p5), .val (.int p6), .val (.int x101), .val (.int x103), .val (.int x105), .val (.int x107), .val (.ref b108), .val (.ref b110), .val (.ref b115), .unset, .unset, .unset] [(.int (((p5 >>> ((5 : Int32) &&& 31)) &&& (1 : Int32)) + (1 : Int32))), (.int (3 : Int32)), (.ref b110)]))
  generalize ds3 : (((p5 >>> ((5 : Int32) &&& 31)) &&& (1 : Int32)) + (1 : Int32)) = s3
  show Done p e below s _ _ _ (T179.setTop (mkF m 127 #[.val (.int p1), .val (.int p2), .val (.int p3), .val (.int p4), .val (.int p5), .val (.int p6), .val (.int x101), .val (.int x103), .val (.int x105), .val (.int x107), .val (.ref b108), .val (.ref b110), .val (.ref b115), .unset, .unset, .unset] [(.int s3), (.int (3 : Int32)), (.ref b110)]))
  have hs3 := own_e _ _ ds3
  obtain ⟨T186, h186, X186, e186, W186, A186, st186⟩ := stoI X179 hx hZ e179 f183 (j := (3 : Int32)) (by decide) (i := 3) (by decide) (Nat.le_of_ble_eq_true rfl) (g := (mkF m 127 #[.val (.int p1), .val (.int p2), .val (.int p3), .val (.int p4), .val (.int p5), .val (.int p6), .val (.int x101), .val (.int x103), .val (.int x105), .val (.int x107), .val (.ref b108), .val (.ref b110), .val (.ref b115), .unset, .unset, .unset] [(.int s3), (.int (3 : Int32)), (.ref b110)])) rfl rfl (hb hby at_127)
  have f187 : Exa Z h186 b108 "[I" := f180.wr W186
  have f188 : Ax Z h186 b108 .int [(.int (1 : Int32)), (.int f1), (.int f2), (.int f3), (.int (1 : Int32))] := f181.other W186 ne111
  have f189 : Exa Z h186 b110 "[I" := f182.wr W186
  have f190 : Ax Z h186 b110 .int [(.int (1 : Int32)), (.int s1), (.int s2), (.int s3), (.int (1 : Int32))] := A186
  have f191 : Exa Z h186 b115 "[I" := f184.wr W186
  have f192 : Ax Z h186 b115 .int [(.int (0 : Int32)), (.int (0 : Int32)), (.int (0 : Int32)), (.int (0 : Int32)), (.int (0 : Int32))] := f185.other W186 (Ne.symm ne117)
  have Z186 : n0 ≤ h186.size := Nat.le_trans Z179 (Keep.of_wr W186).1
  have N186 := Fr.snoc X186 N179 g_b110
  refine Done.step st186 ?_
  show Done p e below s _ _ _ (T186.setTop (mkF m 128 #[.val (.int p1), .val (.int p2), .val (.int p3), .val (.int p4), .val (.int p5), .val (.int p6), .val (.int x101), .val (.int x103), .val (.int x105), .val (.int x107), .val (.ref b108), .val (.ref b110), .val (.ref b115), .unset, .unset, .unset] []))
  refine Done.step (fun t k => XS.aload X186.here hx rfl (hb hby at_128) rfl rfl k) ?_
  show Done p e below s _ _ _ (T186.setTop (mkF m 130 #[.val (.int p1), .val (.int p2), .val (.int p3), .val (.int p4), .val (.int p5), .val (.int p6), .val (.int x101), .val (.int x103), .val (.int x105), .val (.int x107), .val (.ref b108), .val (.ref b110), .val (.ref b115), .unset, .unset, .unset] [(.ref b115)]))
  refine Done.step (fun t k => XS.iconst X186.here hx rfl (hb hby at_130) k) ?_
  show Done p e below s _ _ _ (T186.setTop (mkF m 131 #[.val (.int p1), .val (.int p2), .val (.int p3), .val (.int p4), .val (.int p5), .val (.int p6), .val (.int x101), .val (.int x103), .val (.int x105), .val (.int x107), .val (.ref b108), .val (.ref b110), .val (.ref b115), .unset, .unset, .unset] [(.int (0 : Int32)), (.ref b115)]))
  refine Done.step (fun t k => XS.iload X186.here hx rfl (hb hby at_131) rfl k) ?_
  show Done p e below s _ _ _ (T186.setTop (mkF m 133 #[.val (.int p1), .val (.int p2), .val (.int p3), .val (.int p4), .val (.int p5), .val (.int p6), .val (.int x101), .val (.int x103), .val (.int x105), .val (.int x107), .val (.ref b108), .val (.ref b110), .val (.ref b115), .unset, .unset, .unset] [(.int p6), (.int (0 : Int32)), (.ref b115)]))
  obtain ⟨T193, h193, X193, e193, W193, A193, st193⟩ := stoI X186 hx hZ e186 f192 (j := (0 : Int32)) (by decide) (i := 0) (by decide) (Nat.le_of_ble_eq_true rfl) (g := (mkF m 133 #[.val (.int p1), .val (.int p2), .val (.int p3), .val (.int p4), .val (.int p5), .val (.int p6), .val (.int x101), .val (.int x103), .val (.int x105), .val (.int x107), .val (.ref b108), .val (.ref b110), .val (.ref b115), .unset, .unset, .unset] [(.int p6), (.int (0 : Int32)), (.ref b115)])) rfl rfl (hb hby at_133)
  have f194 : Exa Z h193 b108 "[I" := f187.wr W193
  have f195 : Ax Z h193 b108 .int [(.int (1 : Int32)), (.int f1), (.int f2), (.int f3), (.int (1 : Int32))] := f188.other W193 ne116
  have f196 : Exa Z h193 b110 "[I" := f189.wr W193
  have f197 : Ax Z h193 b110 .int [(.int (1 : Int32)), (.int s1), (.int s2), (.int s3), (.int (1 : Int32))] := f190.other W193 ne117
  have f198 : Exa Z h193 b115 "[I" := f191.wr W193
  have f199 : Ax Z h193 b115 .int [(.int p6), (.int (0 : Int32)), (.int (0 : Int32)), (.int (0 : Int32)), (.int (0 : Int32))] := A193
  have Z193 : n0 ≤ h193.size := Nat.le_trans Z186 (Keep.of_wr W193).1
  have N193 := Fr.snoc X193 N186 g_b115
  refine Done.step st193 ?_
  show Done p e below s _ _ _ (T193.setTop (mkF m 134 #[.val (.int p1), .val (.int p2), .val (.int p3), .val (.int p4), .val (.int p5), .val (.int p6), .val (.int x101), .val (.int x103), .val (.int x105), .val (.int x107), .val (.ref b108), .val (.ref b110), .val (.ref b115), .unset, .unset, .unset] []))
  refine Done.step (fun t k => XS.aload X193.here hx rfl (hb hby at_134) rfl rfl k) ?_
  show Done p e below s _ _ _ (T193.setTop (mkF m 136 #[.val (.int p1), .val (.int p2), .val (.int p3), .val (.int p4), .val (.int p5), .val (.int p6), .val (.int x101), .val (.int x103), .val (.int x105), .val (.int x107), .val (.ref b108), .val (.ref b110), .val (.ref b115), .unset, .unset, .unset] [(.ref b115)]))
  refine Done.step (fun t k => XS.iconst X193.here hx rfl (hb hby at_136) k) ?_
  show Done p e below s _ _ _ (T193.setTop (mkF m 137 #[.val (.int p1), .val (.int p2), .val (.int p3), .val (.int p4), .val (.int p5), .val (.int p6), .val (.int x101), .val (.int x103), .val (.int x105), .val (.int x107), .val (.ref b108), .val (.ref b110), .val (.ref b115), .unset, .unset, .unset] [(.int (1 : Int32)), (.ref b115)]))
  refine Done.step (fun t k => XS.iload X193.here hx rfl (hb hby at_137) rfl k) ?_
  show Done p e below s _ _ _ (T193.setTop (mkF m 139 #[.val (.int p1), .val (.int p2), .val (.int p3), .val (.int p4), .val (.int p5), .val (.int p6), .val (.int x101), .val (.int x103), .val (.int x105), .val (.int x107), .val (.ref b108), .val (.ref b110), .val (.ref b115), .unset, .unset, .unset] [(.int x103), (.int (1 : Int32)), (.ref b115)]))
  obtain ⟨T200, h200, X200, e200, W200, A200, st200⟩ := stoI X193 hx hZ e193 f199 (j := (1 : Int32)) (by decide) (i := 1) (by decide) (Nat.le_of_ble_eq_true rfl) (g := (mkF m 139 #[.val (.int p1), .val (.int p2), .val (.int p3), .val (.int p4), .val (.int p5), .val (.int p6), .val (.int x101), .val (.int x103), .val (.int x105), .val (.int x107), .val (.ref b108), .val (.ref b110), .val (.ref b115), .unset, .unset, .unset] [(.int x103), (.int (1 : Int32)), (.ref b115)])) rfl rfl (hb hby at_139)
  have f201 : Exa Z h200 b108 "[I" := f194.wr W200
  have f202 : Ax Z h200 b108 .int [(.int (1 : Int32)), (.int f1), (.int f2), (.int f3), (.int (1 : Int32))] := f195.other W200 ne116
  have f203 : Exa Z h200 b110 "[I" := f196.wr W200
  have f204 : Ax Z h200 b110 .int [(.int (1 : Int32)), (.int s1), (.int s2), (.int s3), (.int (1 : Int32))] := f197.other W200 ne117
  have f205 : Exa Z h200 b115 "[I" := f198.wr W200
  have f206 : Ax Z h200 b115 .int [(.int p6), (.int x103), (.int (0 : Int32)), (.int (0 : Int32)), (.int (0 : Int32))] := A200
  have Z200 : n0 ≤ h200.size := Nat.le_trans Z193 (Keep.of_wr W200).1
  have N200 := Fr.snoc X200 N193 g_b115
  refine Done.step st200 ?_
  show Done p e below s _ _ _ (T200.setTop (mkF m 140 #[.val (.int p1), .val (.int p2), .val (.int p3), .val (.int p4), .val (.int p5), .val (.int p6), .val (.int x101), .val (.int x103), .val (.int x105), .val (.int x107), .val (.ref b108), .val (.ref b110), .val (.ref b115), .unset, .unset, .unset] []))
  refine Done.step (fun t k => XS.aload X200.here hx rfl (hb hby at_140) rfl rfl k) ?_
  show Done p e below s _ _ _ (T200.setTop (mkF m 142 #[.val (.int p1), .val (.int p2), .val (.int p3), .val (.int p4), .val (.int p5), .val (.int p6), .val (.int x101), .val (.int x103), .val (.int x105), .val (.int x107), .val (.ref b108), .val (.ref b110), .val (.ref b115), .unset, .unset, .unset] [(.ref b115)]))
  refine Done.step (fun t k => XS.iconst X200.here hx rfl (hb hby at_142) k) ?_
  show Done p e below s _ _ _ (T200.setTop (mkF m 143 #[.val (.int p1), .val (.int p2), .val (.int p3), .val (.int p4), .val (.int p5), .val (.int p6), .val (.int x101), .val (.int x103), .val (.int x105), .val (.int x107), .val (.ref b108), .val (.ref b110), .val (.ref b115), .unset, .unset, .unset] [(.int (2 : Int32)), (.ref b115)]))
  refine Done.step (fun t k => XS.iload X200.here hx rfl (hb hby at_143) rfl k) ?_
  show Done p e below s _ _ _ (T200.setTop (mkF m 145 #[.val (.int p1), .val (.int p2), .val (.int p3), .val (.int p4), .val (.int p5), .val (.int p6), .val (.int x101), .val (.int x103), .val (.int x105), .val (.int x107), .val (.ref b108), .val (.ref b110), .val (.ref b115), .unset, .unset, .unset] [(.int x105), (.int (2 : Int32)), (.ref b115)]))
  obtain ⟨T207, h207, X207, e207, W207, A207, st207⟩ := stoI X200 hx hZ e200 f206 (j := (2 : Int32)) (by decide) (i := 2) (by decide) (Nat.le_of_ble_eq_true rfl) (g := (mkF m 145 #[.val (.int p1), .val (.int p2), .val (.int p3), .val (.int p4), .val (.int p5), .val (.int p6), .val (.int x101), .val (.int x103), .val (.int x105), .val (.int x107), .val (.ref b108), .val (.ref b110), .val (.ref b115), .unset, .unset, .unset] [(.int x105), (.int (2 : Int32)), (.ref b115)])) rfl rfl (hb hby at_145)
  have f208 : Exa Z h207 b108 "[I" := f201.wr W207
  have f209 : Ax Z h207 b108 .int [(.int (1 : Int32)), (.int f1), (.int f2), (.int f3), (.int (1 : Int32))] := f202.other W207 ne116
  have f210 : Exa Z h207 b110 "[I" := f203.wr W207
  have f211 : Ax Z h207 b110 .int [(.int (1 : Int32)), (.int s1), (.int s2), (.int s3), (.int (1 : Int32))] := f204.other W207 ne117
  have f212 : Exa Z h207 b115 "[I" := f205.wr W207
  have f213 : Ax Z h207 b115 .int [(.int p6), (.int x103), (.int x105), (.int (0 : Int32)), (.int (0 : Int32))] := A207
  have Z207 : n0 ≤ h207.size := Nat.le_trans Z200 (Keep.of_wr W207).1
  have N207 := Fr.snoc X207 N200 g_b115
  refine Done.step st207 ?_
  show Done p e below s _ _ _ (T207.setTop (mkF m 146 #[.val (.int p1), .val (.int p2), .val (.int p3), .val (.int p4), .val (.int p5), .val (.int p6), .val (.int x101), .val (.int x103), .val (.int x105), .val (.int x107), .val (.ref b108), .val (.ref b110), .val (.ref b115), .unset, .unset, .unset] []))
  refine Done.step (fun t k => XS.aload X207.here hx rfl (hb hby at_146) rfl rfl k) ?_
  show Done p e below s _ _ _ (T207.setTop (mkF m 148 #[.val (.int p1), .val (.int p2), .val (.int p3), .val (.int p4), .val (.int p5), .val (.int p6), .val (.int x101), .val (.int x103), .val (.int x105), .val (.int x107), .val (.ref b108), .val (.ref b110), .val (.ref b115), .unset, .unset, .unset] [(.ref b115)]))
  refine Done.step (fun t k => XS.iconst X207.here hx rfl (hb hby at_148) k) ?_
  show Done p e below s _ _ _ (T207.setTop (mkF m 149 #[.val (.int p1), .val (.int p2), .val (.int p3), .val (.int p4), .val (.int p5), .val (.int p6), .val (.int x101), .val (.int x103), .val (.int x105), .val (.int x107), .val (.ref b108), .val (.ref b110), .val (.ref b115), .unset, .unset, .unset] [(.int (3 : Int32)), (.ref b115)]))
  refine Done.step (fun t k => XS.iload X207.here hx rfl (hb hby at_149) rfl k) ?_
  show Done p e below s _ _ _ (T207.setTop (mkF m 151 #[.val (.int p1), .val (.int p2), .val (.int p3), .val (.int p4), .val (.int p5), .val (.int p6), .val (.int x101), .val (.int x103), .val (.int x105), .val (.int x107), .val (.ref b108), .val (.ref b110), .val (.ref b115), .unset, .unset, .unset] [(.int x107), (.int (3 : Int32)), (.ref b115)]))
  obtain ⟨T214, h214, X214, e214, W214, A214, st214⟩ := stoI X207 hx hZ e207 f213 (j := (3 : Int32)) (by decide) (i := 3) (by decide) (Nat.le_of_ble_eq_true rfl) (g := (mkF m 151 #[.val (.int p1), .val (.int p2), .val (.int p3), .val (.int p4), .val (.int p5), .val (.int p6), .val (.int x101), .val (.int x103), .val (.int x105), .val (.int x107), .val (.ref b108), .val (.ref b110), .val (.ref b115), .unset, .unset, .unset] [(.int x107), (.int (3 : Int32)), (.ref b115)])) rfl rfl (hb hby at_151)
  have f215 : Exa Z h214 b108 "[I" := f208.wr W214
  have f216 : Ax Z h214 b108 .int [(.int (1 : Int32)), (.int f1), (.int f2), (.int f3), (.int (1 : Int32))] := f209.other W214 ne116
  have f217 : Exa Z h214 b110 "[I" := f210.wr W214
  have f218 : Ax Z h214 b110 .int [(.int (1 : Int32)), (.int s1), (.int s2), (.int s3), (.int (1 : Int32))] := f211.other W214 ne117
  have f219 : Exa Z h214 b115 "[I" := f212.wr W214
  have f220 : Ax Z h214 b115 .int [(.int p6), (.int x103), (.int x105), (.int x107), (.int (0 : Int32))] := A214
  have Z214 : n0 ≤ h214.size := Nat.le_trans Z207 (Keep.of_wr W214).1
  have N214 := Fr.snoc X214 N207 g_b115
  refine Done.step st214 ?_
  show Done p e below s _ _ _ (T214.setTop (mkF m 152 #[.val (.int p1), .val (.int p2), .val (.int p3), .val (.int p4), .val (.int p5), .val (.int p6), .val (.int x101), .val (.int x103), .val (.int x105), .val (.int x107), .val (.ref b108), .val (.ref b110), .val (.ref b115), .unset, .unset, .unset] []))
  refine Done.step (fun t k => XS.aload X214.here hx rfl (hb hby at_152) rfl rfl k) ?_
  show Done p e below s _ _ _ (T214.setTop (mkF m 154 #[.val (.int p1), .val (.int p2), .val (.int p3), .val (.int p4), .val (.int p5), .val (.int p6), .val (.int x101), .val (.int x103), .val (.int x105), .val (.int x107), .val (.ref b108), .val (.ref b110), .val (.ref b115), .unset, .unset, .unset] [(.ref b115)]))
  refine Done.step (fun t k => XS.iconst X214.here hx rfl (hb hby at_154) k) ?_
  show Done p e below s _ _ _ (T214.setTop (mkF m 155 #[.val (.int p1), .val (.int p2), .val (.int p3), .val (.int p4), .val (.int p5), .val (.int p6), .val (.int x101), .val (.int x103), .val (.int x105), .val (.int x107), .val (.ref b108), .val (.ref b110), .val (.ref b115), .unset, .unset, .unset] [(.int (4 : Int32)), (.ref b115)]))
  refine Done.step (fun t k => XS.iload X214.here hx rfl (hb hby at_155) rfl k) ?_
  show Done p e below s _ _ _ (T214.setTop (mkF m 157 #[.val (.int p1), .val (.int p2), .val (.int p3), .val (.int p4), .val (.int p5), .val (.int p6), .val (.int x101), .val (.int x103), .val (.int x105), .val (.int x107), .val (.ref b108), .val (.ref b110), .val (.ref b115), .unset, .unset, .unset] [(.int p6), (.int (4 : Int32)), (.ref b115)]))
  refine Done.step (X214.ldcInt hx hown (mvT hZ (hw _ (List.mem_of_getElem? (i := 6) rfl))) (g := (mkF m 157 #[.val (.int p1), .val (.int p2), .val (.int p3), .val (.int p4), .val (.int p5), .val (.int p6), .val (.int x101), .val (.int x103), .val (.int x105), .val (.int x107), .val (.ref b108), .val (.ref b110), .val (.ref b115), .unset, .unset, .unset] [(.int p6), (.int (4 : Int32)), (.ref b115)])) rfl (hb hby at_157)) ?_
  show Done p e below s _ _ _ (T214.setTop (mkF m 159 #[.val (.int p1), .val (.int p2), .val (.int p3), .val (.int p4), .val (.int p5), .val (.int p6), .val (.int x101), .val (.int x103), .val (.int x105), .val (.int x107), .val (.ref b108), .val (.ref b110), .val (.ref b115), .unset, .unset, .unset] [(.int (1515870810 : Int32)), (.int p6), (.int (4 : Int32)), (.ref b115)]))
  refine Done.step (fun t k => XS.ixor X214.here hx rfl (hb hby at_159) rfl k) ?_
  show Done p e below s _ _ _ (T214.setTop (mkF m 160 #[.val (.int p1), .val (.int p2), .val (.int p3), .val (.int p4), .val (.int p5), .val (.int p6), .val (.int x101), .val (.int x103), .val (.int x105), .val (.int x107), .val (.ref b108), .val (.ref b110), .val (.ref b115), .unset, .unset, .unset] [(.int (p6 ^^^ (1515870810 : Int32))), (.int (4 : Int32)), (.ref b115)]))
  obtain ⟨T221, h221, X221, e221, W221, A221, st221⟩ := stoI X214 hx hZ e214 f220 (j := (4 : Int32)) (by decide) (i := 4) (by decide) (Nat.le_of_ble_eq_true rfl) (g := (mkF m 160 #[.val (.int p1), .val (.int p2), .val (.int p3), .val (.int p4), .val (.int p5), .val (.int p6), .val (.int x101), .val (.int x103), .val (.int x105), .val (.int x107), .val (.ref b108), .val (.ref b110), .val (.ref b115), .unset, .unset, .unset] [(.int (p6 ^^^ (1515870810 : Int32))), (.int (4 : Int32)), (.ref b115)])) rfl rfl (hb hby at_160)
  have f222 : Exa Z h221 b108 "[I" := f215.wr W221
  have f223 : Ax Z h221 b108 .int [(.int (1 : Int32)), (.int f1), (.int f2), (.int f3), (.int (1 : Int32))] := f216.other W221 ne116
  have f224 : Exa Z h221 b110 "[I" := f217.wr W221
  have f225 : Ax Z h221 b110 .int [(.int (1 : Int32)), (.int s1), (.int s2), (.int s3), (.int (1 : Int32))] := f218.other W221 ne117
  have f226 : Exa Z h221 b115 "[I" := f219.wr W221
  have f227 : Ax Z h221 b115 .int [(.int p6), (.int x103), (.int x105), (.int x107), (.int (p6 ^^^ (1515870810 : Int32)))] := A221
  have Z221 : n0 ≤ h221.size := Nat.le_trans Z214 (Keep.of_wr W221).1
  have N221 := Fr.snoc X221 N214 g_b115
  refine Done.step st221 ?_
  show Done p e below s _ _ _ (T221.setTop (mkF m 161 #[.val (.int p1), .val (.int p2), .val (.int p3), .val (.int p4), .val (.int p5), .val (.int p6), .val (.int x101), .val (.int x103), .val (.int x105), .val (.int x107), .val (.ref b108), .val (.ref b110), .val (.ref b115), .unset, .unset, .unset] []))
  obtain ⟨nn, hn, hn2, hcs⟩ := own_n p1 x101 dx101
  obtain ⟨T228, h228, X228, e228, E228, A228, D228, -, st228⟩ := newO X221 hx hZ hown (hw _ (List.mem_of_getElem? (i := 7) rfl)) (hw _ (List.mem_of_getElem? (i := 8) rfl)) (hw _ (List.mem_of_getElem? (i := 9) rfl)) e221 (g := (mkF m 161 #[.val (.int p1), .val (.int p2), .val (.int p3), .val (.int p4), .val (.int p5), .val (.int p6), .val (.int x101), .val (.int x103), .val (.int x105), .val (.int x107), .val (.ref b108), .val (.ref b110), .val (.ref b115), .unset, .unset, .unset] [])) rfl (hb hby at_161) (by decide) (by decide)
  obtain ⟨b228, gq228⟩ : ∃ z, z = h221.size := ⟨_, rfl⟩
  rw [← gq228] at A228 D228 st228
  have ne229 : b108 ≠ b228 := Nat.ne_of_lt (Nat.lt_of_lt_of_le f222.lt (Nat.le_of_eq gq228.symm))
  have ne230 : b110 ≠ b228 := Nat.ne_of_lt (Nat.lt_of_lt_of_le f224.lt (Nat.le_of_eq gq228.symm))
  have ne231 : b115 ≠ b228 := Nat.ne_of_lt (Nat.lt_of_lt_of_le f226.lt (Nat.le_of_eq gq228.symm))
  have f232 : Exa Z h228 b108 "[I" := f222.ext E228
  have f233 : Ax Z h228 b108 .int [(.int (1 : Int32)), (.int f1), (.int f2), (.int f3), (.int (1 : Int32))] := f223.ext E228
  have f234 : Exa Z h228 b110 "[I" := f224.ext E228
  have f235 : Ax Z h228 b110 .int [(.int (1 : Int32)), (.int s1), (.int s2), (.int s3), (.int (1 : Int32))] := f225.ext E228
  have f236 : Exa Z h228 b115 "[I" := f226.ext E228
  have f237 : Ax Z h228 b115 .int [(.int p6), (.int x103), (.int x105), (.int x107), (.int (p6 ^^^ (1515870810 : Int32)))] := f227.ext E228
  have g_b228 : n0 ≤ b228 := Nat.le_trans Z221 (Nat.le_of_eq gq228.symm)
  have Z228 : n0 ≤ h228.size := Nat.le_trans Z221 E228.1
  have f238 : Fld Z h228 b228 "com/example/dendrocover/dendrocover/Network" "vertexCount" "I" (.int (0 : Int32)) := D228 (Or.inr (hw _ (List.mem_of_getElem? (i := 17) rfl))) (ty := .int) (by decide)
  have f239 : Fld Z h228 b228 "com/example/dendrocover/dendrocover/Network" "roadCount" "I" (.int (0 : Int32)) := D228 (Or.inr (hw _ (List.mem_of_getElem? (i := 19) rfl))) (ty := .int) (by decide)
  have f240 : Fld Z h228 b228 "com/example/dendrocover/dendrocover/Network" "firstEnd" "[I" .null := D228 (Or.inr (hw _ (List.mem_of_getElem? (i := 21) rfl))) (ty := (.array .int)) (by decide)
  have f241 : Fld Z h228 b228 "com/example/dendrocover/dendrocover/Network" "secondEnd" "[I" .null := D228 (Or.inr (hw _ (List.mem_of_getElem? (i := 23) rfl))) (ty := (.array .int)) (by decide)
  have f242 : Fld Z h228 b228 "com/example/dendrocover/dendrocover/Network" "length" "[I" .null := D228 (Or.inr (hw _ (List.mem_of_getElem? (i := 25) rfl))) (ty := (.array .int)) (by decide)
  have f243 : Fld Z h228 b228 "com/example/dendrocover/dendrocover/Network" "incidenceStart" "[I" .null := D228 (Or.inr (hw _ (List.mem_of_getElem? (i := 27) rfl))) (ty := (.array .int)) (by decide)
  have f244 : Fld Z h228 b228 "com/example/dendrocover/dendrocover/Network" "incident" "[I" .null := D228 (Or.inr (hw _ (List.mem_of_getElem? (i := 29) rfl))) (ty := (.array .int)) (by decide)
  refine Done.step st228 ?_
  show Done p e below s _ _ _ (T228.setTop (mkF m 164 #[.val (.int p1), .val (.int p2), .val (.int p3), .val (.int p4), .val (.int p5), .val (.int p6), .val (.int x101), .val (.int x103), .val (.int x105), .val (.int x107), .val (.ref b108), .val (.ref b110), .val (.ref b115), .unset, .unset, .unset] [(.ref b228)]))
  refine Done.step (fun t k => XS.dup X228.here hx rfl (hb hby at_164) rfl rfl k) ?_
  show Done p e below s _ _ _ (T228.setTop (mkF m 165 #[.val (.int p1), .val (.int p2), .val (.int p3), .val (.int p4), .val (.int p5), .val (.int p6), .val (.int x101), .val (.int x103), .val (.int x105), .val (.int x107), .val (.ref b108), .val (.ref b110), .val (.ref b115), .unset, .unset, .unset] [(.ref b228), (.ref b228)]))
  refine Done.step (fun t k => XS.iconst X228.here hx rfl (hb hby at_165) k) ?_
  show Done p e below s _ _ _ (T228.setTop (mkF m 166 #[.val (.int p1), .val (.int p2), .val (.int p3), .val (.int p4), .val (.int p5), .val (.int p6), .val (.int x101), .val (.int x103), .val (.int x105), .val (.int x107), .val (.ref b108), .val (.ref b110), .val (.ref b115), .unset, .unset, .unset] [(.int (2 : Int32)), (.ref b228), (.ref b228)]))
  refine Done.step (fun t k => XS.iload X228.here hx rfl (hb hby at_166) rfl k) ?_
  show Done p e below s _ _ _ (T228.setTop (mkF m 168 #[.val (.int p1), .val (.int p2), .val (.int p3), .val (.int p4), .val (.int p5), .val (.int p6), .val (.int x101), .val (.int x103), .val (.int x105), .val (.int x107), .val (.ref b108), .val (.ref b110), .val (.ref b115), .unset, .unset, .unset] [(.int x101), (.int (2 : Int32)), (.ref b228), (.ref b228)]))
  refine Done.step (fun t k => XS.aload X228.here hx rfl (hb hby at_168) rfl rfl k) ?_
  show Done p e below s _ _ _ (T228.setTop (mkF m 170 #[.val (.int p1), .val (.int p2), .val (.int p3), .val (.int p4), .val (.int p5), .val (.int p6), .val (.int x101), .val (.int x103), .val (.int x105), .val (.int x107), .val (.ref b108), .val (.ref b110), .val (.ref b115), .unset, .unset, .unset] [(.ref b108), (.int x101), (.int (2 : Int32)), (.ref b228), (.ref b228)]))
  refine Done.step (fun t k => XS.aload X228.here hx rfl (hb hby at_170) rfl rfl k) ?_
  show Done p e below s _ _ _ (T228.setTop (mkF m 172 #[.val (.int p1), .val (.int p2), .val (.int p3), .val (.int p4), .val (.int p5), .val (.int p6), .val (.int x101), .val (.int x103), .val (.int x105), .val (.int x107), .val (.ref b108), .val (.ref b110), .val (.ref b115), .unset, .unset, .unset] [(.ref b110), (.ref b108), (.int x101), (.int (2 : Int32)), (.ref b228), (.ref b228)]))
  refine Done.step (fun t k => XS.aload X228.here hx rfl (hb hby at_172) rfl rfl k) ?_
  show Done p e below s _ _ _ (T228.setTop (mkF m 174 #[.val (.int p1), .val (.int p2), .val (.int p3), .val (.int p4), .val (.int p5), .val (.int p6), .val (.int x101), .val (.int x103), .val (.int x105), .val (.int x107), .val (.ref b108), .val (.ref b110), .val (.ref b115), .unset, .unset, .unset] [(.ref b115), (.ref b110), (.ref b108), (.int x101), (.int (2 : Int32)), (.ref b228), (.ref b228)]))
  obtain ⟨v245, _, ⟨T245, L245, k245, n245⟩, -, X245, ⟨Lc245, hQ245, l245, y245, z245⟩, st245⟩ := X228.specialBack hx (y := (⟨"com/example/dendrocover/dendrocover/Network", "<init>", "(II[I[I[I)V"⟩ : MethodName)) rfl hown (mvT hZ (hw _ (List.mem_of_getElem? (i := 10) rfl))) (mvT hZ (hw _ (List.mem_of_getElem? (i := 11) rfl))) (mvT hZ (hw _ (List.mem_of_getElem? (i := 12) rfl))) (by decide) (backOf (W := 1) (rm2 l Z a0 hw [] b228 (2 : Int32) x101 b108 b110 b115 [(1 : Int32), f1, f2, f3, (1 : Int32)] [(1 : Int32), s1, s2, s3, (1 : Int32)] nn 2 h228 n0 Z228 A228 f238 f239 f240 f241 f242 f243 f244 f233 (Ne.symm ne229) f235 (Ne.symm ne230) g_b228 rfl (Nat.le_refl _) hn hn2 (Nat.lt_of_le_of_lt hn2 (Nat.le_of_ble_eq_true rfl)) (Nat.lt_of_le_of_lt hn2 (Nat.le_of_ble_eq_true rfl)) (own_in3 hn2 hf1 hf2 hf3) (own_in3 hn2 hs1 hs2 hs3)) hZ (hw _ (List.mem_of_getElem? (i := 12) rfl)) (hw _ (List.mem_of_getElem? (i := 9) rfl)) (by decide) (by decide)) (g := (mkF m 174 #[.val (.int p1), .val (.int p2), .val (.int p3), .val (.int p4), .val (.int p5), .val (.int p6), .val (.int x101), .val (.int x103), .val (.int x105), .val (.int x107), .val (.ref b108), .val (.ref b110), .val (.ref b115), .unset, .unset, .unset] [(.ref b115), (.ref b110), (.ref b108), (.int x101), (.int (2 : Int32)), (.ref b228), (.ref b228)])) rfl (by rw [hml]; rfl) (Steps.refl _) (a := b228) (argsL := [(.int (2 : Int32)), (.int x101), (.ref b108), (.ref b110), (.ref b115)]) (rest := [(.ref b228)]) (lenOf pd_1 rfl) rfl (by show 2 * 0 + _ ≤ _; exact Nat.le_of_eq rfl) (hb hby at_174) (fun _ _ => ⟨rfl, e228, (by decide : 4 + 2 ≤ _), (by decide : 22 + 10 ≤ _)⟩)
  dsimp only [Pt.U, Pt.locs, Pt.cells, Pt.slots] at X245 l245 y245 z245 st245 hQ245
  subst l245 y245 z245
  refine Done.far st245 ?_
  obtain ⟨rfl, N245q, K245q, x245, y245_0, y245_1, y245_2, y245_3⟩ := hQ245
  have N245 := Fr.app N221 N245q
  have f246 : Exa Z T245.heap b108 "[I" := f232.keep K245q
  have f247 : Ax Z T245.heap b108 .int [(.int (1 : Int32)), (.int f1), (.int f2), (.int f3), (.int (1 : Int32))] := f233.keep K245q (ninS ne229 nin0)
  have f248 : Exa Z T245.heap b110 "[I" := f234.keep K245q
  have f249 : Ax Z T245.heap b110 .int [(.int (1 : Int32)), (.int s1), (.int s2), (.int s3), (.int (1 : Int32))] := f235.keep K245q (ninS ne230 nin0)
  have f250 : Exa Z T245.heap b115 "[I" := f236.keep K245q
  have f251 : Ax Z T245.heap b115 .int [(.int p6), (.int x103), (.int x105), (.int x107), (.int (p6 ^^^ (1515870810 : Int32)))] := f237.keep K245q (ninS ne231 nin0)
  have f252 : Exa Z T245.heap b228 "com/example/dendrocover/dendrocover/Network" := A228.keep K245q
  have Zk245 : n0 ≤ T245.heap.size := Nat.le_trans Z228 K245q.1
  show Done p e below s _ _ _ (T245.setTop (mkF m 177 #[.val (.int p1), .val (.int p2), .val (.int p3), .val (.int p4), .val (.int p5), .val (.int p6), .val (.int x101), .val (.int x103), .val (.int x105), .val (.int x107), .val (.ref b108), .val (.ref b110), .val (.ref b115), .unset, .unset, .unset] [(.ref b228)]))
  refine Done.step (fun t k => XS.astore X245.here hx rfl (hb hby at_177) rfl rfl (l' := #[.val (.int p1), .val (.int p2), .val (.int p3), .val (.int p4), .val (.int p5), .val (.int p6), .val (.int x101), .val (.int x103), .val (.int x105), .val (.int x107), .val (.ref b108), .val (.ref b110), .val (.ref b115), .val (.ref b228), .unset, .unset]) rfl k) ?_
  show Done p e below s _ _ _ (T245.setTop (mkF m 179 #[.val (.int p1), .val (.int p2), .val (.int p3), .val (.int p4), .val (.int p5), .val (.int p6), .val (.int x101), .val (.int x103), .val (.int x105), .val (.int x107), .val (.ref b108), .val (.ref b110), .val (.ref b115), .val (.ref b228), .unset, .unset] []))
  refine Done.step (fun t k => XS.lconst X245.here hx rfl (hb hby at_179) k) ?_
  show Done p e below s _ _ _ (T245.setTop (mkF m 180 #[.val (.int p1), .val (.int p2), .val (.int p3), .val (.int p4), .val (.int p5), .val (.int p6), .val (.int x101), .val (.int x103), .val (.int x105), .val (.int x107), .val (.ref b108), .val (.ref b110), .val (.ref b115), .val (.ref b228), .unset, .unset] [(.long (0 : Int64))]))
  refine Done.step (fun t k => XS.lstore X245.here hx rfl (hb hby at_180) rfl (l' := #[.val (.int p1), .val (.int p2), .val (.int p3), .val (.int p4), .val (.int p5), .val (.int p6), .val (.int x101), .val (.int x103), .val (.int x105), .val (.int x107), .val (.ref b108), .val (.ref b110), .val (.ref b115), .val (.ref b228), .val (.long (0 : Int64)), .second]) rfl k) ?_
  show Done p e below s _ _ _ (T245.setTop (mkF m 182 #[.val (.int p1), .val (.int p2), .val (.int p3), .val (.int p4), .val (.int p5), .val (.int p6), .val (.int x101), .val (.int x103), .val (.int x105), .val (.int x107), .val (.ref b108), .val (.ref b110), .val (.ref b115), .val (.ref b228), .val (.long (0 : Int64)), .second] []))
  obtain rfl | rfl | rfl | rfl := hcs
  · show Done p e below s _ _ _ (T245.setTop (mkF m 182 #[.val (.int p1), .val (.int p2), .val (.int p3), .val (.int p4), .val (.int p5), .val (.int p6), .val (.int (0 : Int32)), .val (.int x103), .val (.int x105), .val (.int x107), .val (.ref b108), .val (.ref b110), .val (.ref b115), .val (.ref b228), .val (.long (0 : Int64)), .second] []))
    refine Done.step (fun t k => XS.iload X245.here hx rfl (hb hby at_182) rfl k) ?_
    show Done p e below s _ _ _ (T245.setTop (mkF m 184 #[.val (.int p1), .val (.int p2), .val (.int p3), .val (.int p4), .val (.int p5), .val (.int p6), .val (.int (0 : Int32)), .val (.int x103), .val (.int x105), .val (.int x107), .val (.ref b108), .val (.ref b110), .val (.ref b115), .val (.ref b228), .val (.long (0 : Int64)), .second] [(.int (0 : Int32))]))
    refine Done.step (fun t k => XS.iconst X245.here hx rfl (hb hby at_184) k) ?_
    show Done p e below s _ _ _ (T245.setTop (mkF m 185 #[.val (.int p1), .val (.int p2), .val (.int p3), .val (.int p4), .val (.int p5), .val (.int p6), .val (.int (0 : Int32)), .val (.int x103), .val (.int x105), .val (.int x107), .val (.ref b108), .val (.ref b110), .val (.ref b115), .val (.ref b228), .val (.long (0 : Int64)), .second] [(.int (1 : Int32)), (.int (0 : Int32))]))
    refine Done.step (fun t k => XS.icmpYes X245.here hx rfl (pc0 := 185) (pc' := 196) rfl (hb hby at_185) rfl (tlt (by decide)).1 (by decide) (by decide) k) ?_
    show Done p e below s _ _ _ (T245.setTop (mkF m 196 #[.val (.int p1), .val (.int p2), .val (.int p3), .val (.int p4), .val (.int p5), .val (.int p6), .val (.int (0 : Int32)), .val (.int x103), .val (.int x105), .val (.int x107), .val (.ref b108), .val (.ref b110), .val (.ref b115), .val (.ref b228), .val (.long (0 : Int64)), .second] []))
    refine Done.step (fun t k => XS.iload X245.here hx rfl (hb hby at_196) rfl k) ?_
    show Done p e below s _ _ _ (T245.setTop (mkF m 198 #[.val (.int p1), .val (.int p2), .val (.int p3), .val (.int p4), .val (.int p5), .val (.int p6), .val (.int (0 : Int32)), .val (.int x103), .val (.int x105), .val (.int x107), .val (.ref b108), .val (.ref b110), .val (.ref b115), .val (.ref b228), .val (.long (0 : Int64)), .second] [(.int (0 : Int32))]))
    refine Done.step (fun t k => XS.iconst X245.here hx rfl (hb hby at_198) k) ?_
    show Done p e below s _ _ _ (T245.setTop (mkF m 199 #[.val (.int p1), .val (.int p2), .val (.int p3), .val (.int p4), .val (.int p5), .val (.int p6), .val (.int (0 : Int32)), .val (.int x103), .val (.int x105), .val (.int x107), .val (.ref b108), .val (.ref b110), .val (.ref b115), .val (.ref b228), .val (.long (0 : Int64)), .second] [(.int (2 : Int32)), (.int (0 : Int32))]))
    refine Done.step (fun t k => XS.icmpYes X245.here hx rfl (pc0 := 199) (pc' := 210) rfl (hb hby at_199) rfl (tlt (by decide)).1 (by decide) (by decide) k) ?_
    show Done p e below s _ _ _ (T245.setTop (mkF m 210 #[.val (.int p1), .val (.int p2), .val (.int p3), .val (.int p4), .val (.int p5), .val (.int p6), .val (.int (0 : Int32)), .val (.int x103), .val (.int x105), .val (.int x107), .val (.ref b108), .val (.ref b110), .val (.ref b115), .val (.ref b228), .val (.long (0 : Int64)), .second] []))
    refine Done.step (fun t k => XS.iload X245.here hx rfl (hb hby at_210) rfl k) ?_
    show Done p e below s _ _ _ (T245.setTop (mkF m 212 #[.val (.int p1), .val (.int p2), .val (.int p3), .val (.int p4), .val (.int p5), .val (.int p6), .val (.int (0 : Int32)), .val (.int x103), .val (.int x105), .val (.int x107), .val (.ref b108), .val (.ref b110), .val (.ref b115), .val (.ref b228), .val (.long (0 : Int64)), .second] [(.int (0 : Int32))]))
    refine Done.step (fun t k => XS.iconst X245.here hx rfl (hb hby at_212) k) ?_
    show Done p e below s _ _ _ (T245.setTop (mkF m 213 #[.val (.int p1), .val (.int p2), .val (.int p3), .val (.int p4), .val (.int p5), .val (.int p6), .val (.int (0 : Int32)), .val (.int x103), .val (.int x105), .val (.int x107), .val (.ref b108), .val (.ref b110), .val (.ref b115), .val (.ref b228), .val (.long (0 : Int64)), .second] [(.int (3 : Int32)), (.int (0 : Int32))]))
    refine Done.step (fun t k => XS.icmpYes X245.here hx rfl (pc0 := 213) (pc' := 224) rfl (hb hby at_213) rfl (tlt (by decide)).1 (by decide) (by decide) k) ?_
    show Done p e below s _ _ _ (T245.setTop (mkF m 224 #[.val (.int p1), .val (.int p2), .val (.int p3), .val (.int p4), .val (.int p5), .val (.int p6), .val (.int (0 : Int32)), .val (.int x103), .val (.int x105), .val (.int x107), .val (.ref b108), .val (.ref b110), .val (.ref b115), .val (.ref b228), .val (.long (0 : Int64)), .second] []))
    refine Done.step (fun t k => XS.aload X245.here hx rfl (hb hby at_224) rfl rfl k) ?_
    show Done p e below s _ _ _ (T245.setTop (mkF m 226 #[.val (.int p1), .val (.int p2), .val (.int p3), .val (.int p4), .val (.int p5), .val (.int p6), .val (.int (0 : Int32)), .val (.int x103), .val (.int x105), .val (.int x107), .val (.ref b108), .val (.ref b110), .val (.ref b115), .val (.ref b228), .val (.long (0 : Int64)), .second] [(.ref b228)]))
    obtain ⟨cq253, kq253, q253a, q253b, q253c⟩ := isOf hZ rfl f252
    obtain ⟨v253, _, ⟨T253, L253, k253, n253⟩, -, X253, ⟨Lc253, hQ253, l253, y253, z253⟩, st253⟩ := X245.virtualBack hx (y := (⟨"com/example/dendrocover/dendrocover/Network", "totalLength", "()J"⟩ : MethodName)) (z := (⟨"com/example/dendrocover/dendrocover/Network", "totalLength", "()J"⟩ : MethodName)) hown (mvT hZ (hw _ (List.mem_of_getElem? (i := 30) rfl))) (mvT hZ (hw _ (List.mem_of_getElem? (i := 31) rfl))) (notFace_of_selects (args := #[]) (mvT hZ (hw _ (List.mem_of_getElem? (i := 33) rfl)))) (mvT hZ (hw _ (List.mem_of_getElem? (i := 33) rfl))) (mvT hZ (hw _ (List.mem_of_getElem? (i := 32) rfl))) (by decide) (backOf (W := 0) (rm4 l Z a0 hw [] b228 (0 : Int32) b115 [p6, x103, x105, x107, (p6 ^^^ (1515870810 : Int32))] 0 T245.heap n0 Zk245 y245_0 y245_3 f251 rfl (Nat.le_of_ble_eq_true rfl) (Nat.le_of_ble_eq_true rfl)) hZ (hw _ (List.mem_of_getElem? (i := 34) rfl)) (hw _ (List.mem_of_getElem? (i := 9) rfl)) (by decide) (by decide)) q253a q253c (g := (mkF m 226 #[.val (.int p1), .val (.int p2), .val (.int p3), .val (.int p4), .val (.int p5), .val (.int p6), .val (.int (0 : Int32)), .val (.int x103), .val (.int x105), .val (.int x107), .val (.ref b108), .val (.ref b110), .val (.ref b115), .val (.ref b228), .val (.long (0 : Int64)), .second] [(.ref b228)])) rfl (by rw [hml]; rfl) (Steps.refl _) (argsL := []) (rest := []) (lenOf pd_2 rfl) rfl (by show 2 * 0 + _ ≤ _; exact Nat.le_of_eq rfl) (hb hby at_226) (fun _ _ => ⟨rfl, rfl, (by decide : 6 + 0 ≤ _), (by decide : 32 + 0 ≤ _)⟩)
    dsimp only [Pt.U, Pt.locs, Pt.cells, Pt.slots] at X253 l253 y253 z253 st253 hQ253
    subst l253 y253 z253
    refine Done.far st253 ?_
    obtain ⟨rfl, N253q, e253⟩ := hQ253
    have N253 := Fr.app N245 N253q
    show Done p e below s _ _ _ (T253.setTop (mkF m 229 #[.val (.int p1), .val (.int p2), .val (.int p3), .val (.int p4), .val (.int p5), .val (.int p6), .val (.int (0 : Int32)), .val (.int x103), .val (.int x105), .val (.int x107), .val (.ref b108), .val (.ref b110), .val (.ref b115), .val (.ref b228), .val (.long (0 : Int64)), .second] [(.long (TL [p6, x103, x105, x107, (p6 ^^^ (1515870810 : Int32))] 0))]))
    refine Done.step (fun t k => XS.lload X253.here hx rfl (hb hby at_229) rfl k) ?_
    show Done p e below s _ _ _ (T253.setTop (mkF m 231 #[.val (.int p1), .val (.int p2), .val (.int p3), .val (.int p4), .val (.int p5), .val (.int p6), .val (.int (0 : Int32)), .val (.int x103), .val (.int x105), .val (.int x107), .val (.ref b108), .val (.ref b110), .val (.ref b115), .val (.ref b228), .val (.long (0 : Int64)), .second] [(.long (0 : Int64)), (.long (TL [p6, x103, x105, x107, (p6 ^^^ (1515870810 : Int32))] 0))]))
    refine Done.step (fun t k => XS.lcmp X253.here hx rfl (hb hby at_231) rfl k) ?_
    show Done p e below s _ _ _ (T253.setTop (mkF m 232 #[.val (.int p1), .val (.int p2), .val (.int p3), .val (.int p4), .val (.int p5), .val (.int p6), .val (.int (0 : Int32)), .val (.int x103), .val (.int x105), .val (.int x107), .val (.ref b108), .val (.ref b110), .val (.ref b115), .val (.ref b228), .val (.long (0 : Int64)), .second] [(.int (lcmpW (TL [p6, x103, x105, x107, (p6 ^^^ (1515870810 : Int32))] 0) (0 : Int64)))]))
    refine Done.step (fun t k => XS.ifNo X253.here hx rfl (hb hby at_232) rfl ((if0 _ _).trans (teq ((lw_eq _ _).mpr (rfl : (TL [p6, x103, x105, x107, (p6 ^^^ (1515870810 : Int32))] 0) = (0 : Int64)))).2) k) ?_
    show Done p e below s _ _ _ (T253.setTop (mkF m 235 #[.val (.int p1), .val (.int p2), .val (.int p3), .val (.int p4), .val (.int p5), .val (.int p6), .val (.int (0 : Int32)), .val (.int x103), .val (.int x105), .val (.int x107), .val (.ref b108), .val (.ref b110), .val (.ref b115), .val (.ref b228), .val (.long (0 : Int64)), .second] []))
    refine Done.step (fun t k => XS.iconst X253.here hx rfl (hb hby at_235) k) ?_
    show Done p e below s _ _ _ (T253.setTop (mkF m 236 #[.val (.int p1), .val (.int p2), .val (.int p3), .val (.int p4), .val (.int p5), .val (.int p6), .val (.int (0 : Int32)), .val (.int x103), .val (.int x105), .val (.int x107), .val (.ref b108), .val (.ref b110), .val (.ref b115), .val (.ref b228), .val (.long (0 : Int64)), .second] [(.int (1 : Int32))]))
    refine Done.step (fun t k => XS.goto X253.here hx rfl (pc0 := 236) (pc' := 240) rfl (hb hby at_236) (by decide) (by decide) k) ?_
    show Done p e below s _ _ _ (T253.setTop (mkF m 240 #[.val (.int p1), .val (.int p2), .val (.int p3), .val (.int p4), .val (.int p5), .val (.int p6), .val (.int (0 : Int32)), .val (.int x103), .val (.int x105), .val (.int x107), .val (.ref b108), .val (.ref b110), .val (.ref b115), .val (.ref b228), .val (.long (0 : Int64)), .second] [(.int (1 : Int32))]))
    exact Done.narr X253 hx hlk hret (by simp) (hb hby at_240) (by decide) (by decide) ⟨rfl, N253⟩
  · show Done p e below s _ _ _ (T245.setTop (mkF m 182 #[.val (.int p1), .val (.int p2), .val (.int p3), .val (.int p4), .val (.int p5), .val (.int p6), .val (.int (1 : Int32)), .val (.int x103), .val (.int x105), .val (.int x107), .val (.ref b108), .val (.ref b110), .val (.ref b115), .val (.ref b228), .val (.long (0 : Int64)), .second] []))
    refine Done.step (fun t k => XS.iload X245.here hx rfl (hb hby at_182) rfl k) ?_
    show Done p e below s _ _ _ (T245.setTop (mkF m 184 #[.val (.int p1), .val (.int p2), .val (.int p3), .val (.int p4), .val (.int p5), .val (.int p6), .val (.int (1 : Int32)), .val (.int x103), .val (.int x105), .val (.int x107), .val (.ref b108), .val (.ref b110), .val (.ref b115), .val (.ref b228), .val (.long (0 : Int64)), .second] [(.int (1 : Int32))]))
    refine Done.step (fun t k => XS.iconst X245.here hx rfl (hb hby at_184) k) ?_
    show Done p e below s _ _ _ (T245.setTop (mkF m 185 #[.val (.int p1), .val (.int p2), .val (.int p3), .val (.int p4), .val (.int p5), .val (.int p6), .val (.int (1 : Int32)), .val (.int x103), .val (.int x105), .val (.int x107), .val (.ref b108), .val (.ref b110), .val (.ref b115), .val (.ref b228), .val (.long (0 : Int64)), .second] [(.int (1 : Int32)), (.int (1 : Int32))]))
    refine Done.step (fun t k => XS.icmpNo X245.here hx rfl (hb hby at_185) rfl (flt (by decide)).1 k) ?_
    show Done p e below s _ _ _ (T245.setTop (mkF m 188 #[.val (.int p1), .val (.int p2), .val (.int p3), .val (.int p4), .val (.int p5), .val (.int p6), .val (.int (1 : Int32)), .val (.int x103), .val (.int x105), .val (.int x107), .val (.ref b108), .val (.ref b110), .val (.ref b115), .val (.ref b228), .val (.long (0 : Int64)), .second] []))
    refine Done.step (fun t k => XS.lload X245.here hx rfl (hb hby at_188) rfl k) ?_
    show Done p e below s _ _ _ (T245.setTop (mkF m 190 #[.val (.int p1), .val (.int p2), .val (.int p3), .val (.int p4), .val (.int p5), .val (.int p6), .val (.int (1 : Int32)), .val (.int x103), .val (.int x105), .val (.int x107), .val (.ref b108), .val (.ref b110), .val (.ref b115), .val (.ref b228), .val (.long (0 : Int64)), .second] [(.long (0 : Int64))]))
    refine Done.step (fun t k => XS.iload X245.here hx rfl (hb hby at_190) rfl k) ?_
    show Done p e below s _ _ _ (T245.setTop (mkF m 192 #[.val (.int p1), .val (.int p2), .val (.int p3), .val (.int p4), .val (.int p5), .val (.int p6), .val (.int (1 : Int32)), .val (.int x103), .val (.int x105), .val (.int x107), .val (.ref b108), .val (.ref b110), .val (.ref b115), .val (.ref b228), .val (.long (0 : Int64)), .second] [(.int x103), (.long (0 : Int64))]))
    refine Done.step (fun t k => XS.i2l X245.here hx rfl (hb hby at_192) rfl k) ?_
    show Done p e below s _ _ _ (T245.setTop (mkF m 193 #[.val (.int p1), .val (.int p2), .val (.int p3), .val (.int p4), .val (.int p5), .val (.int p6), .val (.int (1 : Int32)), .val (.int x103), .val (.int x105), .val (.int x107), .val (.ref b108), .val (.ref b110), .val (.ref b115), .val (.ref b228), .val (.long (0 : Int64)), .second] [(.long (x103).toInt64), (.long (0 : Int64))]))
    refine Done.step (fun t k => XS.ladd X245.here hx rfl (hb hby at_193) rfl k) ?_
    show Done p e below s _ _ _ (T245.setTop (mkF m 194 #[.val (.int p1), .val (.int p2), .val (.int p3), .val (.int p4), .val (.int p5), .val (.int p6), .val (.int (1 : Int32)), .val (.int x103), .val (.int x105), .val (.int x107), .val (.ref b108), .val (.ref b110), .val (.ref b115), .val (.ref b228), .val (.long (0 : Int64)), .second] [(.long ((0 : Int64) + (x103).toInt64))]))
    refine Done.step (fun t k => XS.lstore X245.here hx rfl (hb hby at_194) rfl (l' := #[.val (.int p1), .val (.int p2), .val (.int p3), .val (.int p4), .val (.int p5), .val (.int p6), .val (.int (1 : Int32)), .val (.int x103), .val (.int x105), .val (.int x107), .val (.ref b108), .val (.ref b110), .val (.ref b115), .val (.ref b228), .val (.long ((0 : Int64) + (x103).toInt64)), .second]) rfl k) ?_
    show Done p e below s _ _ _ (T245.setTop (mkF m 196 #[.val (.int p1), .val (.int p2), .val (.int p3), .val (.int p4), .val (.int p5), .val (.int p6), .val (.int (1 : Int32)), .val (.int x103), .val (.int x105), .val (.int x107), .val (.ref b108), .val (.ref b110), .val (.ref b115), .val (.ref b228), .val (.long ((0 : Int64) + (x103).toInt64)), .second] []))
    refine Done.step (fun t k => XS.iload X245.here hx rfl (hb hby at_196) rfl k) ?_
    show Done p e below s _ _ _ (T245.setTop (mkF m 198 #[.val (.int p1), .val (.int p2), .val (.int p3), .val (.int p4), .val (.int p5), .val (.int p6), .val (.int (1 : Int32)), .val (.int x103), .val (.int x105), .val (.int x107), .val (.ref b108), .val (.ref b110), .val (.ref b115), .val (.ref b228), .val (.long ((0 : Int64) + (x103).toInt64)), .second] [(.int (1 : Int32))]))
    refine Done.step (fun t k => XS.iconst X245.here hx rfl (hb hby at_198) k) ?_
    show Done p e below s _ _ _ (T245.setTop (mkF m 199 #[.val (.int p1), .val (.int p2), .val (.int p3), .val (.int p4), .val (.int p5), .val (.int p6), .val (.int (1 : Int32)), .val (.int x103), .val (.int x105), .val (.int x107), .val (.ref b108), .val (.ref b110), .val (.ref b115), .val (.ref b228), .val (.long ((0 : Int64) + (x103).toInt64)), .second] [(.int (2 : Int32)), (.int (1 : Int32))]))
    refine Done.step (fun t k => XS.icmpYes X245.here hx rfl (pc0 := 199) (pc' := 210) rfl (hb hby at_199) rfl (tlt (by decide)).1 (by decide) (by decide) k) ?_
    show Done p e below s _ _ _ (T245.setTop (mkF m 210 #[.val (.int p1), .val (.int p2), .val (.int p3), .val (.int p4), .val (.int p5), .val (.int p6), .val (.int (1 : Int32)), .val (.int x103), .val (.int x105), .val (.int x107), .val (.ref b108), .val (.ref b110), .val (.ref b115), .val (.ref b228), .val (.long ((0 : Int64) + (x103).toInt64)), .second] []))
    refine Done.step (fun t k => XS.iload X245.here hx rfl (hb hby at_210) rfl k) ?_
    show Done p e below s _ _ _ (T245.setTop (mkF m 212 #[.val (.int p1), .val (.int p2), .val (.int p3), .val (.int p4), .val (.int p5), .val (.int p6), .val (.int (1 : Int32)), .val (.int x103), .val (.int x105), .val (.int x107), .val (.ref b108), .val (.ref b110), .val (.ref b115), .val (.ref b228), .val (.long ((0 : Int64) + (x103).toInt64)), .second] [(.int (1 : Int32))]))
    refine Done.step (fun t k => XS.iconst X245.here hx rfl (hb hby at_212) k) ?_
    show Done p e below s _ _ _ (T245.setTop (mkF m 213 #[.val (.int p1), .val (.int p2), .val (.int p3), .val (.int p4), .val (.int p5), .val (.int p6), .val (.int (1 : Int32)), .val (.int x103), .val (.int x105), .val (.int x107), .val (.ref b108), .val (.ref b110), .val (.ref b115), .val (.ref b228), .val (.long ((0 : Int64) + (x103).toInt64)), .second] [(.int (3 : Int32)), (.int (1 : Int32))]))
    refine Done.step (fun t k => XS.icmpYes X245.here hx rfl (pc0 := 213) (pc' := 224) rfl (hb hby at_213) rfl (tlt (by decide)).1 (by decide) (by decide) k) ?_
    show Done p e below s _ _ _ (T245.setTop (mkF m 224 #[.val (.int p1), .val (.int p2), .val (.int p3), .val (.int p4), .val (.int p5), .val (.int p6), .val (.int (1 : Int32)), .val (.int x103), .val (.int x105), .val (.int x107), .val (.ref b108), .val (.ref b110), .val (.ref b115), .val (.ref b228), .val (.long ((0 : Int64) + (x103).toInt64)), .second] []))
    refine Done.step (fun t k => XS.aload X245.here hx rfl (hb hby at_224) rfl rfl k) ?_
    show Done p e below s _ _ _ (T245.setTop (mkF m 226 #[.val (.int p1), .val (.int p2), .val (.int p3), .val (.int p4), .val (.int p5), .val (.int p6), .val (.int (1 : Int32)), .val (.int x103), .val (.int x105), .val (.int x107), .val (.ref b108), .val (.ref b110), .val (.ref b115), .val (.ref b228), .val (.long ((0 : Int64) + (x103).toInt64)), .second] [(.ref b228)]))
    obtain ⟨cq254, kq254, q254a, q254b, q254c⟩ := isOf hZ rfl f252
    obtain ⟨v254, _, ⟨T254, L254, k254, n254⟩, -, X254, ⟨Lc254, hQ254, l254, y254, z254⟩, st254⟩ := X245.virtualBack hx (y := (⟨"com/example/dendrocover/dendrocover/Network", "totalLength", "()J"⟩ : MethodName)) (z := (⟨"com/example/dendrocover/dendrocover/Network", "totalLength", "()J"⟩ : MethodName)) hown (mvT hZ (hw _ (List.mem_of_getElem? (i := 30) rfl))) (mvT hZ (hw _ (List.mem_of_getElem? (i := 31) rfl))) (notFace_of_selects (args := #[]) (mvT hZ (hw _ (List.mem_of_getElem? (i := 33) rfl)))) (mvT hZ (hw _ (List.mem_of_getElem? (i := 33) rfl))) (mvT hZ (hw _ (List.mem_of_getElem? (i := 32) rfl))) (by decide) (backOf (W := 0) (rm4 l Z a0 hw [] b228 (1 : Int32) b115 [p6, x103, x105, x107, (p6 ^^^ (1515870810 : Int32))] 1 T245.heap n0 Zk245 y245_0 y245_3 f251 rfl (Nat.le_of_ble_eq_true rfl) (Nat.le_of_ble_eq_true rfl)) hZ (hw _ (List.mem_of_getElem? (i := 34) rfl)) (hw _ (List.mem_of_getElem? (i := 9) rfl)) (by decide) (by decide)) q254a q254c (g := (mkF m 226 #[.val (.int p1), .val (.int p2), .val (.int p3), .val (.int p4), .val (.int p5), .val (.int p6), .val (.int (1 : Int32)), .val (.int x103), .val (.int x105), .val (.int x107), .val (.ref b108), .val (.ref b110), .val (.ref b115), .val (.ref b228), .val (.long ((0 : Int64) + (x103).toInt64)), .second] [(.ref b228)])) rfl (by rw [hml]; rfl) (Steps.refl _) (argsL := []) (rest := []) (lenOf pd_2 rfl) rfl (by show 2 * 0 + _ ≤ _; exact Nat.le_of_eq rfl) (hb hby at_226) (fun _ _ => ⟨rfl, rfl, (by decide : 6 + 0 ≤ _), (by decide : 32 + 0 ≤ _)⟩)
    dsimp only [Pt.U, Pt.locs, Pt.cells, Pt.slots] at X254 l254 y254 z254 st254 hQ254
    subst l254 y254 z254
    refine Done.far st254 ?_
    obtain ⟨rfl, N254q, e254⟩ := hQ254
    have N254 := Fr.app N245 N254q
    show Done p e below s _ _ _ (T254.setTop (mkF m 229 #[.val (.int p1), .val (.int p2), .val (.int p3), .val (.int p4), .val (.int p5), .val (.int p6), .val (.int (1 : Int32)), .val (.int x103), .val (.int x105), .val (.int x107), .val (.ref b108), .val (.ref b110), .val (.ref b115), .val (.ref b228), .val (.long ((0 : Int64) + (x103).toInt64)), .second] [(.long (TL [p6, x103, x105, x107, (p6 ^^^ (1515870810 : Int32))] 1))]))
    refine Done.step (fun t k => XS.lload X254.here hx rfl (hb hby at_229) rfl k) ?_
    show Done p e below s _ _ _ (T254.setTop (mkF m 231 #[.val (.int p1), .val (.int p2), .val (.int p3), .val (.int p4), .val (.int p5), .val (.int p6), .val (.int (1 : Int32)), .val (.int x103), .val (.int x105), .val (.int x107), .val (.ref b108), .val (.ref b110), .val (.ref b115), .val (.ref b228), .val (.long ((0 : Int64) + (x103).toInt64)), .second] [(.long ((0 : Int64) + (x103).toInt64)), (.long (TL [p6, x103, x105, x107, (p6 ^^^ (1515870810 : Int32))] 1))]))
    refine Done.step (fun t k => XS.lcmp X254.here hx rfl (hb hby at_231) rfl k) ?_
    show Done p e below s _ _ _ (T254.setTop (mkF m 232 #[.val (.int p1), .val (.int p2), .val (.int p3), .val (.int p4), .val (.int p5), .val (.int p6), .val (.int (1 : Int32)), .val (.int x103), .val (.int x105), .val (.int x107), .val (.ref b108), .val (.ref b110), .val (.ref b115), .val (.ref b228), .val (.long ((0 : Int64) + (x103).toInt64)), .second] [(.int (lcmpW (TL [p6, x103, x105, x107, (p6 ^^^ (1515870810 : Int32))] 1) ((0 : Int64) + (x103).toInt64)))]))
    refine Done.step (fun t k => XS.ifNo X254.here hx rfl (hb hby at_232) rfl ((if0 _ _).trans (teq ((lw_eq _ _).mpr (rfl : (TL [p6, x103, x105, x107, (p6 ^^^ (1515870810 : Int32))] 1) = ((0 : Int64) + (x103).toInt64)))).2) k) ?_
    show Done p e below s _ _ _ (T254.setTop (mkF m 235 #[.val (.int p1), .val (.int p2), .val (.int p3), .val (.int p4), .val (.int p5), .val (.int p6), .val (.int (1 : Int32)), .val (.int x103), .val (.int x105), .val (.int x107), .val (.ref b108), .val (.ref b110), .val (.ref b115), .val (.ref b228), .val (.long ((0 : Int64) + (x103).toInt64)), .second] []))
    refine Done.step (fun t k => XS.iconst X254.here hx rfl (hb hby at_235) k) ?_
    show Done p e below s _ _ _ (T254.setTop (mkF m 236 #[.val (.int p1), .val (.int p2), .val (.int p3), .val (.int p4), .val (.int p5), .val (.int p6), .val (.int (1 : Int32)), .val (.int x103), .val (.int x105), .val (.int x107), .val (.ref b108), .val (.ref b110), .val (.ref b115), .val (.ref b228), .val (.long ((0 : Int64) + (x103).toInt64)), .second] [(.int (1 : Int32))]))
    refine Done.step (fun t k => XS.goto X254.here hx rfl (pc0 := 236) (pc' := 240) rfl (hb hby at_236) (by decide) (by decide) k) ?_
    show Done p e below s _ _ _ (T254.setTop (mkF m 240 #[.val (.int p1), .val (.int p2), .val (.int p3), .val (.int p4), .val (.int p5), .val (.int p6), .val (.int (1 : Int32)), .val (.int x103), .val (.int x105), .val (.int x107), .val (.ref b108), .val (.ref b110), .val (.ref b115), .val (.ref b228), .val (.long ((0 : Int64) + (x103).toInt64)), .second] [(.int (1 : Int32))]))
    exact Done.narr X254 hx hlk hret (by simp) (hb hby at_240) (by decide) (by decide) ⟨rfl, N254⟩
  · show Done p e below s _ _ _ (T245.setTop (mkF m 182 #[.val (.int p1), .val (.int p2), .val (.int p3), .val (.int p4), .val (.int p5), .val (.int p6), .val (.int (2 : Int32)), .val (.int x103), .val (.int x105), .val (.int x107), .val (.ref b108), .val (.ref b110), .val (.ref b115), .val (.ref b228), .val (.long (0 : Int64)), .second] []))
    refine Done.step (fun t k => XS.iload X245.here hx rfl (hb hby at_182) rfl k) ?_
    show Done p e below s _ _ _ (T245.setTop (mkF m 184 #[.val (.int p1), .val (.int p2), .val (.int p3), .val (.int p4), .val (.int p5), .val (.int p6), .val (.int (2 : Int32)), .val (.int x103), .val (.int x105), .val (.int x107), .val (.ref b108), .val (.ref b110), .val (.ref b115), .val (.ref b228), .val (.long (0 : Int64)), .second] [(.int (2 : Int32))]))
    refine Done.step (fun t k => XS.iconst X245.here hx rfl (hb hby at_184) k) ?_
    show Done p e below s _ _ _ (T245.setTop (mkF m 185 #[.val (.int p1), .val (.int p2), .val (.int p3), .val (.int p4), .val (.int p5), .val (.int p6), .val (.int (2 : Int32)), .val (.int x103), .val (.int x105), .val (.int x107), .val (.ref b108), .val (.ref b110), .val (.ref b115), .val (.ref b228), .val (.long (0 : Int64)), .second] [(.int (1 : Int32)), (.int (2 : Int32))]))
    refine Done.step (fun t k => XS.icmpNo X245.here hx rfl (hb hby at_185) rfl (flt (by decide)).1 k) ?_
    show Done p e below s _ _ _ (T245.setTop (mkF m 188 #[.val (.int p1), .val (.int p2), .val (.int p3), .val (.int p4), .val (.int p5), .val (.int p6), .val (.int (2 : Int32)), .val (.int x103), .val (.int x105), .val (.int x107), .val (.ref b108), .val (.ref b110), .val (.ref b115), .val (.ref b228), .val (.long (0 : Int64)), .second] []))
    refine Done.step (fun t k => XS.lload X245.here hx rfl (hb hby at_188) rfl k) ?_
    show Done p e below s _ _ _ (T245.setTop (mkF m 190 #[.val (.int p1), .val (.int p2), .val (.int p3), .val (.int p4), .val (.int p5), .val (.int p6), .val (.int (2 : Int32)), .val (.int x103), .val (.int x105), .val (.int x107), .val (.ref b108), .val (.ref b110), .val (.ref b115), .val (.ref b228), .val (.long (0 : Int64)), .second] [(.long (0 : Int64))]))
    refine Done.step (fun t k => XS.iload X245.here hx rfl (hb hby at_190) rfl k) ?_
    show Done p e below s _ _ _ (T245.setTop (mkF m 192 #[.val (.int p1), .val (.int p2), .val (.int p3), .val (.int p4), .val (.int p5), .val (.int p6), .val (.int (2 : Int32)), .val (.int x103), .val (.int x105), .val (.int x107), .val (.ref b108), .val (.ref b110), .val (.ref b115), .val (.ref b228), .val (.long (0 : Int64)), .second] [(.int x103), (.long (0 : Int64))]))
    refine Done.step (fun t k => XS.i2l X245.here hx rfl (hb hby at_192) rfl k) ?_
    show Done p e below s _ _ _ (T245.setTop (mkF m 193 #[.val (.int p1), .val (.int p2), .val (.int p3), .val (.int p4), .val (.int p5), .val (.int p6), .val (.int (2 : Int32)), .val (.int x103), .val (.int x105), .val (.int x107), .val (.ref b108), .val (.ref b110), .val (.ref b115), .val (.ref b228), .val (.long (0 : Int64)), .second] [(.long (x103).toInt64), (.long (0 : Int64))]))
    refine Done.step (fun t k => XS.ladd X245.here hx rfl (hb hby at_193) rfl k) ?_
    show Done p e below s _ _ _ (T245.setTop (mkF m 194 #[.val (.int p1), .val (.int p2), .val (.int p3), .val (.int p4), .val (.int p5), .val (.int p6), .val (.int (2 : Int32)), .val (.int x103), .val (.int x105), .val (.int x107), .val (.ref b108), .val (.ref b110), .val (.ref b115), .val (.ref b228), .val (.long (0 : Int64)), .second] [(.long ((0 : Int64) + (x103).toInt64))]))
    refine Done.step (fun t k => XS.lstore X245.here hx rfl (hb hby at_194) rfl (l' := #[.val (.int p1), .val (.int p2), .val (.int p3), .val (.int p4), .val (.int p5), .val (.int p6), .val (.int (2 : Int32)), .val (.int x103), .val (.int x105), .val (.int x107), .val (.ref b108), .val (.ref b110), .val (.ref b115), .val (.ref b228), .val (.long ((0 : Int64) + (x103).toInt64)), .second]) rfl k) ?_
    show Done p e below s _ _ _ (T245.setTop (mkF m 196 #[.val (.int p1), .val (.int p2), .val (.int p3), .val (.int p4), .val (.int p5), .val (.int p6), .val (.int (2 : Int32)), .val (.int x103), .val (.int x105), .val (.int x107), .val (.ref b108), .val (.ref b110), .val (.ref b115), .val (.ref b228), .val (.long ((0 : Int64) + (x103).toInt64)), .second] []))
    refine Done.step (fun t k => XS.iload X245.here hx rfl (hb hby at_196) rfl k) ?_
    show Done p e below s _ _ _ (T245.setTop (mkF m 198 #[.val (.int p1), .val (.int p2), .val (.int p3), .val (.int p4), .val (.int p5), .val (.int p6), .val (.int (2 : Int32)), .val (.int x103), .val (.int x105), .val (.int x107), .val (.ref b108), .val (.ref b110), .val (.ref b115), .val (.ref b228), .val (.long ((0 : Int64) + (x103).toInt64)), .second] [(.int (2 : Int32))]))
    refine Done.step (fun t k => XS.iconst X245.here hx rfl (hb hby at_198) k) ?_
    show Done p e below s _ _ _ (T245.setTop (mkF m 199 #[.val (.int p1), .val (.int p2), .val (.int p3), .val (.int p4), .val (.int p5), .val (.int p6), .val (.int (2 : Int32)), .val (.int x103), .val (.int x105), .val (.int x107), .val (.ref b108), .val (.ref b110), .val (.ref b115), .val (.ref b228), .val (.long ((0 : Int64) + (x103).toInt64)), .second] [(.int (2 : Int32)), (.int (2 : Int32))]))
    refine Done.step (fun t k => XS.icmpNo X245.here hx rfl (hb hby at_199) rfl (flt (by decide)).1 k) ?_
    show Done p e below s _ _ _ (T245.setTop (mkF m 202 #[.val (.int p1), .val (.int p2), .val (.int p3), .val (.int p4), .val (.int p5), .val (.int p6), .val (.int (2 : Int32)), .val (.int x103), .val (.int x105), .val (.int x107), .val (.ref b108), .val (.ref b110), .val (.ref b115), .val (.ref b228), .val (.long ((0 : Int64) + (x103).toInt64)), .second] []))
    refine Done.step (fun t k => XS.lload X245.here hx rfl (hb hby at_202) rfl k) ?_
    show Done p e below s _ _ _ (T245.setTop (mkF m 204 #[.val (.int p1), .val (.int p2), .val (.int p3), .val (.int p4), .val (.int p5), .val (.int p6), .val (.int (2 : Int32)), .val (.int x103), .val (.int x105), .val (.int x107), .val (.ref b108), .val (.ref b110), .val (.ref b115), .val (.ref b228), .val (.long ((0 : Int64) + (x103).toInt64)), .second] [(.long ((0 : Int64) + (x103).toInt64))]))
    refine Done.step (fun t k => XS.iload X245.here hx rfl (hb hby at_204) rfl k) ?_
    show Done p e below s _ _ _ (T245.setTop (mkF m 206 #[.val (.int p1), .val (.int p2), .val (.int p3), .val (.int p4), .val (.int p5), .val (.int p6), .val (.int (2 : Int32)), .val (.int x103), .val (.int x105), .val (.int x107), .val (.ref b108), .val (.ref b110), .val (.ref b115), .val (.ref b228), .val (.long ((0 : Int64) + (x103).toInt64)), .second] [(.int x105), (.long ((0 : Int64) + (x103).toInt64))]))
    refine Done.step (fun t k => XS.i2l X245.here hx rfl (hb hby at_206) rfl k) ?_
    show Done p e below s _ _ _ (T245.setTop (mkF m 207 #[.val (.int p1), .val (.int p2), .val (.int p3), .val (.int p4), .val (.int p5), .val (.int p6), .val (.int (2 : Int32)), .val (.int x103), .val (.int x105), .val (.int x107), .val (.ref b108), .val (.ref b110), .val (.ref b115), .val (.ref b228), .val (.long ((0 : Int64) + (x103).toInt64)), .second] [(.long (x105).toInt64), (.long ((0 : Int64) + (x103).toInt64))]))
    refine Done.step (fun t k => XS.ladd X245.here hx rfl (hb hby at_207) rfl k) ?_
    show Done p e below s _ _ _ (T245.setTop (mkF m 208 #[.val (.int p1), .val (.int p2), .val (.int p3), .val (.int p4), .val (.int p5), .val (.int p6), .val (.int (2 : Int32)), .val (.int x103), .val (.int x105), .val (.int x107), .val (.ref b108), .val (.ref b110), .val (.ref b115), .val (.ref b228), .val (.long ((0 : Int64) + (x103).toInt64)), .second] [(.long (((0 : Int64) + (x103).toInt64) + (x105).toInt64))]))
    refine Done.step (fun t k => XS.lstore X245.here hx rfl (hb hby at_208) rfl (l' := #[.val (.int p1), .val (.int p2), .val (.int p3), .val (.int p4), .val (.int p5), .val (.int p6), .val (.int (2 : Int32)), .val (.int x103), .val (.int x105), .val (.int x107), .val (.ref b108), .val (.ref b110), .val (.ref b115), .val (.ref b228), .val (.long (((0 : Int64) + (x103).toInt64) + (x105).toInt64)), .second]) rfl k) ?_
    show Done p e below s _ _ _ (T245.setTop (mkF m 210 #[.val (.int p1), .val (.int p2), .val (.int p3), .val (.int p4), .val (.int p5), .val (.int p6), .val (.int (2 : Int32)), .val (.int x103), .val (.int x105), .val (.int x107), .val (.ref b108), .val (.ref b110), .val (.ref b115), .val (.ref b228), .val (.long (((0 : Int64) + (x103).toInt64) + (x105).toInt64)), .second] []))
    refine Done.step (fun t k => XS.iload X245.here hx rfl (hb hby at_210) rfl k) ?_
    show Done p e below s _ _ _ (T245.setTop (mkF m 212 #[.val (.int p1), .val (.int p2), .val (.int p3), .val (.int p4), .val (.int p5), .val (.int p6), .val (.int (2 : Int32)), .val (.int x103), .val (.int x105), .val (.int x107), .val (.ref b108), .val (.ref b110), .val (.ref b115), .val (.ref b228), .val (.long (((0 : Int64) + (x103).toInt64) + (x105).toInt64)), .second] [(.int (2 : Int32))]))
    refine Done.step (fun t k => XS.iconst X245.here hx rfl (hb hby at_212) k) ?_
    show Done p e below s _ _ _ (T245.setTop (mkF m 213 #[.val (.int p1), .val (.int p2), .val (.int p3), .val (.int p4), .val (.int p5), .val (.int p6), .val (.int (2 : Int32)), .val (.int x103), .val (.int x105), .val (.int x107), .val (.ref b108), .val (.ref b110), .val (.ref b115), .val (.ref b228), .val (.long (((0 : Int64) + (x103).toInt64) + (x105).toInt64)), .second] [(.int (3 : Int32)), (.int (2 : Int32))]))
    refine Done.step (fun t k => XS.icmpYes X245.here hx rfl (pc0 := 213) (pc' := 224) rfl (hb hby at_213) rfl (tlt (by decide)).1 (by decide) (by decide) k) ?_
    show Done p e below s _ _ _ (T245.setTop (mkF m 224 #[.val (.int p1), .val (.int p2), .val (.int p3), .val (.int p4), .val (.int p5), .val (.int p6), .val (.int (2 : Int32)), .val (.int x103), .val (.int x105), .val (.int x107), .val (.ref b108), .val (.ref b110), .val (.ref b115), .val (.ref b228), .val (.long (((0 : Int64) + (x103).toInt64) + (x105).toInt64)), .second] []))
    refine Done.step (fun t k => XS.aload X245.here hx rfl (hb hby at_224) rfl rfl k) ?_
    show Done p e below s _ _ _ (T245.setTop (mkF m 226 #[.val (.int p1), .val (.int p2), .val (.int p3), .val (.int p4), .val (.int p5), .val (.int p6), .val (.int (2 : Int32)), .val (.int x103), .val (.int x105), .val (.int x107), .val (.ref b108), .val (.ref b110), .val (.ref b115), .val (.ref b228), .val (.long (((0 : Int64) + (x103).toInt64) + (x105).toInt64)), .second] [(.ref b228)]))
    obtain ⟨cq255, kq255, q255a, q255b, q255c⟩ := isOf hZ rfl f252
    obtain ⟨v255, _, ⟨T255, L255, k255, n255⟩, -, X255, ⟨Lc255, hQ255, l255, y255, z255⟩, st255⟩ := X245.virtualBack hx (y := (⟨"com/example/dendrocover/dendrocover/Network", "totalLength", "()J"⟩ : MethodName)) (z := (⟨"com/example/dendrocover/dendrocover/Network", "totalLength", "()J"⟩ : MethodName)) hown (mvT hZ (hw _ (List.mem_of_getElem? (i := 30) rfl))) (mvT hZ (hw _ (List.mem_of_getElem? (i := 31) rfl))) (notFace_of_selects (args := #[]) (mvT hZ (hw _ (List.mem_of_getElem? (i := 33) rfl)))) (mvT hZ (hw _ (List.mem_of_getElem? (i := 33) rfl))) (mvT hZ (hw _ (List.mem_of_getElem? (i := 32) rfl))) (by decide) (backOf (W := 0) (rm4 l Z a0 hw [] b228 (2 : Int32) b115 [p6, x103, x105, x107, (p6 ^^^ (1515870810 : Int32))] 2 T245.heap n0 Zk245 y245_0 y245_3 f251 rfl (Nat.le_of_ble_eq_true rfl) (Nat.le_of_ble_eq_true rfl)) hZ (hw _ (List.mem_of_getElem? (i := 34) rfl)) (hw _ (List.mem_of_getElem? (i := 9) rfl)) (by decide) (by decide)) q255a q255c (g := (mkF m 226 #[.val (.int p1), .val (.int p2), .val (.int p3), .val (.int p4), .val (.int p5), .val (.int p6), .val (.int (2 : Int32)), .val (.int x103), .val (.int x105), .val (.int x107), .val (.ref b108), .val (.ref b110), .val (.ref b115), .val (.ref b228), .val (.long (((0 : Int64) + (x103).toInt64) + (x105).toInt64)), .second] [(.ref b228)])) rfl (by rw [hml]; rfl) (Steps.refl _) (argsL := []) (rest := []) (lenOf pd_2 rfl) rfl (by show 2 * 0 + _ ≤ _; exact Nat.le_of_eq rfl) (hb hby at_226) (fun _ _ => ⟨rfl, rfl, (by decide : 6 + 0 ≤ _), (by decide : 32 + 0 ≤ _)⟩)
    dsimp only [Pt.U, Pt.locs, Pt.cells, Pt.slots] at X255 l255 y255 z255 st255 hQ255
    subst l255 y255 z255
    refine Done.far st255 ?_
    obtain ⟨rfl, N255q, e255⟩ := hQ255
    have N255 := Fr.app N245 N255q
    show Done p e below s _ _ _ (T255.setTop (mkF m 229 #[.val (.int p1), .val (.int p2), .val (.int p3), .val (.int p4), .val (.int p5), .val (.int p6), .val (.int (2 : Int32)), .val (.int x103), .val (.int x105), .val (.int x107), .val (.ref b108), .val (.ref b110), .val (.ref b115), .val (.ref b228), .val (.long (((0 : Int64) + (x103).toInt64) + (x105).toInt64)), .second] [(.long (TL [p6, x103, x105, x107, (p6 ^^^ (1515870810 : Int32))] 2))]))
    refine Done.step (fun t k => XS.lload X255.here hx rfl (hb hby at_229) rfl k) ?_
    show Done p e below s _ _ _ (T255.setTop (mkF m 231 #[.val (.int p1), .val (.int p2), .val (.int p3), .val (.int p4), .val (.int p5), .val (.int p6), .val (.int (2 : Int32)), .val (.int x103), .val (.int x105), .val (.int x107), .val (.ref b108), .val (.ref b110), .val (.ref b115), .val (.ref b228), .val (.long (((0 : Int64) + (x103).toInt64) + (x105).toInt64)), .second] [(.long (((0 : Int64) + (x103).toInt64) + (x105).toInt64)), (.long (TL [p6, x103, x105, x107, (p6 ^^^ (1515870810 : Int32))] 2))]))
    refine Done.step (fun t k => XS.lcmp X255.here hx rfl (hb hby at_231) rfl k) ?_
    show Done p e below s _ _ _ (T255.setTop (mkF m 232 #[.val (.int p1), .val (.int p2), .val (.int p3), .val (.int p4), .val (.int p5), .val (.int p6), .val (.int (2 : Int32)), .val (.int x103), .val (.int x105), .val (.int x107), .val (.ref b108), .val (.ref b110), .val (.ref b115), .val (.ref b228), .val (.long (((0 : Int64) + (x103).toInt64) + (x105).toInt64)), .second] [(.int (lcmpW (TL [p6, x103, x105, x107, (p6 ^^^ (1515870810 : Int32))] 2) (((0 : Int64) + (x103).toInt64) + (x105).toInt64)))]))
    refine Done.step (fun t k => XS.ifNo X255.here hx rfl (hb hby at_232) rfl ((if0 _ _).trans (teq ((lw_eq _ _).mpr (rfl : (TL [p6, x103, x105, x107, (p6 ^^^ (1515870810 : Int32))] 2) = (((0 : Int64) + (x103).toInt64) + (x105).toInt64)))).2) k) ?_
    show Done p e below s _ _ _ (T255.setTop (mkF m 235 #[.val (.int p1), .val (.int p2), .val (.int p3), .val (.int p4), .val (.int p5), .val (.int p6), .val (.int (2 : Int32)), .val (.int x103), .val (.int x105), .val (.int x107), .val (.ref b108), .val (.ref b110), .val (.ref b115), .val (.ref b228), .val (.long (((0 : Int64) + (x103).toInt64) + (x105).toInt64)), .second] []))
    refine Done.step (fun t k => XS.iconst X255.here hx rfl (hb hby at_235) k) ?_
    show Done p e below s _ _ _ (T255.setTop (mkF m 236 #[.val (.int p1), .val (.int p2), .val (.int p3), .val (.int p4), .val (.int p5), .val (.int p6), .val (.int (2 : Int32)), .val (.int x103), .val (.int x105), .val (.int x107), .val (.ref b108), .val (.ref b110), .val (.ref b115), .val (.ref b228), .val (.long (((0 : Int64) + (x103).toInt64) + (x105).toInt64)), .second] [(.int (1 : Int32))]))
    refine Done.step (fun t k => XS.goto X255.here hx rfl (pc0 := 236) (pc' := 240) rfl (hb hby at_236) (by decide) (by decide) k) ?_
    show Done p e below s _ _ _ (T255.setTop (mkF m 240 #[.val (.int p1), .val (.int p2), .val (.int p3), .val (.int p4), .val (.int p5), .val (.int p6), .val (.int (2 : Int32)), .val (.int x103), .val (.int x105), .val (.int x107), .val (.ref b108), .val (.ref b110), .val (.ref b115), .val (.ref b228), .val (.long (((0 : Int64) + (x103).toInt64) + (x105).toInt64)), .second] [(.int (1 : Int32))]))
    exact Done.narr X255 hx hlk hret (by simp) (hb hby at_240) (by decide) (by decide) ⟨rfl, N255⟩
  · show Done p e below s _ _ _ (T245.setTop (mkF m 182 #[.val (.int p1), .val (.int p2), .val (.int p3), .val (.int p4), .val (.int p5), .val (.int p6), .val (.int (3 : Int32)), .val (.int x103), .val (.int x105), .val (.int x107), .val (.ref b108), .val (.ref b110), .val (.ref b115), .val (.ref b228), .val (.long (0 : Int64)), .second] []))
    refine Done.step (fun t k => XS.iload X245.here hx rfl (hb hby at_182) rfl k) ?_
    show Done p e below s _ _ _ (T245.setTop (mkF m 184 #[.val (.int p1), .val (.int p2), .val (.int p3), .val (.int p4), .val (.int p5), .val (.int p6), .val (.int (3 : Int32)), .val (.int x103), .val (.int x105), .val (.int x107), .val (.ref b108), .val (.ref b110), .val (.ref b115), .val (.ref b228), .val (.long (0 : Int64)), .second] [(.int (3 : Int32))]))
    refine Done.step (fun t k => XS.iconst X245.here hx rfl (hb hby at_184) k) ?_
    show Done p e below s _ _ _ (T245.setTop (mkF m 185 #[.val (.int p1), .val (.int p2), .val (.int p3), .val (.int p4), .val (.int p5), .val (.int p6), .val (.int (3 : Int32)), .val (.int x103), .val (.int x105), .val (.int x107), .val (.ref b108), .val (.ref b110), .val (.ref b115), .val (.ref b228), .val (.long (0 : Int64)), .second] [(.int (1 : Int32)), (.int (3 : Int32))]))
    refine Done.step (fun t k => XS.icmpNo X245.here hx rfl (hb hby at_185) rfl (flt (by decide)).1 k) ?_
    show Done p e below s _ _ _ (T245.setTop (mkF m 188 #[.val (.int p1), .val (.int p2), .val (.int p3), .val (.int p4), .val (.int p5), .val (.int p6), .val (.int (3 : Int32)), .val (.int x103), .val (.int x105), .val (.int x107), .val (.ref b108), .val (.ref b110), .val (.ref b115), .val (.ref b228), .val (.long (0 : Int64)), .second] []))
    refine Done.step (fun t k => XS.lload X245.here hx rfl (hb hby at_188) rfl k) ?_
    show Done p e below s _ _ _ (T245.setTop (mkF m 190 #[.val (.int p1), .val (.int p2), .val (.int p3), .val (.int p4), .val (.int p5), .val (.int p6), .val (.int (3 : Int32)), .val (.int x103), .val (.int x105), .val (.int x107), .val (.ref b108), .val (.ref b110), .val (.ref b115), .val (.ref b228), .val (.long (0 : Int64)), .second] [(.long (0 : Int64))]))
    refine Done.step (fun t k => XS.iload X245.here hx rfl (hb hby at_190) rfl k) ?_
    show Done p e below s _ _ _ (T245.setTop (mkF m 192 #[.val (.int p1), .val (.int p2), .val (.int p3), .val (.int p4), .val (.int p5), .val (.int p6), .val (.int (3 : Int32)), .val (.int x103), .val (.int x105), .val (.int x107), .val (.ref b108), .val (.ref b110), .val (.ref b115), .val (.ref b228), .val (.long (0 : Int64)), .second] [(.int x103), (.long (0 : Int64))]))
    refine Done.step (fun t k => XS.i2l X245.here hx rfl (hb hby at_192) rfl k) ?_
    show Done p e below s _ _ _ (T245.setTop (mkF m 193 #[.val (.int p1), .val (.int p2), .val (.int p3), .val (.int p4), .val (.int p5), .val (.int p6), .val (.int (3 : Int32)), .val (.int x103), .val (.int x105), .val (.int x107), .val (.ref b108), .val (.ref b110), .val (.ref b115), .val (.ref b228), .val (.long (0 : Int64)), .second] [(.long (x103).toInt64), (.long (0 : Int64))]))
    refine Done.step (fun t k => XS.ladd X245.here hx rfl (hb hby at_193) rfl k) ?_
    show Done p e below s _ _ _ (T245.setTop (mkF m 194 #[.val (.int p1), .val (.int p2), .val (.int p3), .val (.int p4), .val (.int p5), .val (.int p6), .val (.int (3 : Int32)), .val (.int x103), .val (.int x105), .val (.int x107), .val (.ref b108), .val (.ref b110), .val (.ref b115), .val (.ref b228), .val (.long (0 : Int64)), .second] [(.long ((0 : Int64) + (x103).toInt64))]))
    refine Done.step (fun t k => XS.lstore X245.here hx rfl (hb hby at_194) rfl (l' := #[.val (.int p1), .val (.int p2), .val (.int p3), .val (.int p4), .val (.int p5), .val (.int p6), .val (.int (3 : Int32)), .val (.int x103), .val (.int x105), .val (.int x107), .val (.ref b108), .val (.ref b110), .val (.ref b115), .val (.ref b228), .val (.long ((0 : Int64) + (x103).toInt64)), .second]) rfl k) ?_
    show Done p e below s _ _ _ (T245.setTop (mkF m 196 #[.val (.int p1), .val (.int p2), .val (.int p3), .val (.int p4), .val (.int p5), .val (.int p6), .val (.int (3 : Int32)), .val (.int x103), .val (.int x105), .val (.int x107), .val (.ref b108), .val (.ref b110), .val (.ref b115), .val (.ref b228), .val (.long ((0 : Int64) + (x103).toInt64)), .second] []))
    refine Done.step (fun t k => XS.iload X245.here hx rfl (hb hby at_196) rfl k) ?_
    show Done p e below s _ _ _ (T245.setTop (mkF m 198 #[.val (.int p1), .val (.int p2), .val (.int p3), .val (.int p4), .val (.int p5), .val (.int p6), .val (.int (3 : Int32)), .val (.int x103), .val (.int x105), .val (.int x107), .val (.ref b108), .val (.ref b110), .val (.ref b115), .val (.ref b228), .val (.long ((0 : Int64) + (x103).toInt64)), .second] [(.int (3 : Int32))]))
    refine Done.step (fun t k => XS.iconst X245.here hx rfl (hb hby at_198) k) ?_
    show Done p e below s _ _ _ (T245.setTop (mkF m 199 #[.val (.int p1), .val (.int p2), .val (.int p3), .val (.int p4), .val (.int p5), .val (.int p6), .val (.int (3 : Int32)), .val (.int x103), .val (.int x105), .val (.int x107), .val (.ref b108), .val (.ref b110), .val (.ref b115), .val (.ref b228), .val (.long ((0 : Int64) + (x103).toInt64)), .second] [(.int (2 : Int32)), (.int (3 : Int32))]))
    refine Done.step (fun t k => XS.icmpNo X245.here hx rfl (hb hby at_199) rfl (flt (by decide)).1 k) ?_
    show Done p e below s _ _ _ (T245.setTop (mkF m 202 #[.val (.int p1), .val (.int p2), .val (.int p3), .val (.int p4), .val (.int p5), .val (.int p6), .val (.int (3 : Int32)), .val (.int x103), .val (.int x105), .val (.int x107), .val (.ref b108), .val (.ref b110), .val (.ref b115), .val (.ref b228), .val (.long ((0 : Int64) + (x103).toInt64)), .second] []))
    refine Done.step (fun t k => XS.lload X245.here hx rfl (hb hby at_202) rfl k) ?_
    show Done p e below s _ _ _ (T245.setTop (mkF m 204 #[.val (.int p1), .val (.int p2), .val (.int p3), .val (.int p4), .val (.int p5), .val (.int p6), .val (.int (3 : Int32)), .val (.int x103), .val (.int x105), .val (.int x107), .val (.ref b108), .val (.ref b110), .val (.ref b115), .val (.ref b228), .val (.long ((0 : Int64) + (x103).toInt64)), .second] [(.long ((0 : Int64) + (x103).toInt64))]))
    refine Done.step (fun t k => XS.iload X245.here hx rfl (hb hby at_204) rfl k) ?_
    show Done p e below s _ _ _ (T245.setTop (mkF m 206 #[.val (.int p1), .val (.int p2), .val (.int p3), .val (.int p4), .val (.int p5), .val (.int p6), .val (.int (3 : Int32)), .val (.int x103), .val (.int x105), .val (.int x107), .val (.ref b108), .val (.ref b110), .val (.ref b115), .val (.ref b228), .val (.long ((0 : Int64) + (x103).toInt64)), .second] [(.int x105), (.long ((0 : Int64) + (x103).toInt64))]))
    refine Done.step (fun t k => XS.i2l X245.here hx rfl (hb hby at_206) rfl k) ?_
    show Done p e below s _ _ _ (T245.setTop (mkF m 207 #[.val (.int p1), .val (.int p2), .val (.int p3), .val (.int p4), .val (.int p5), .val (.int p6), .val (.int (3 : Int32)), .val (.int x103), .val (.int x105), .val (.int x107), .val (.ref b108), .val (.ref b110), .val (.ref b115), .val (.ref b228), .val (.long ((0 : Int64) + (x103).toInt64)), .second] [(.long (x105).toInt64), (.long ((0 : Int64) + (x103).toInt64))]))
    refine Done.step (fun t k => XS.ladd X245.here hx rfl (hb hby at_207) rfl k) ?_
    show Done p e below s _ _ _ (T245.setTop (mkF m 208 #[.val (.int p1), .val (.int p2), .val (.int p3), .val (.int p4), .val (.int p5), .val (.int p6), .val (.int (3 : Int32)), .val (.int x103), .val (.int x105), .val (.int x107), .val (.ref b108), .val (.ref b110), .val (.ref b115), .val (.ref b228), .val (.long ((0 : Int64) + (x103).toInt64)), .second] [(.long (((0 : Int64) + (x103).toInt64) + (x105).toInt64))]))
    refine Done.step (fun t k => XS.lstore X245.here hx rfl (hb hby at_208) rfl (l' := #[.val (.int p1), .val (.int p2), .val (.int p3), .val (.int p4), .val (.int p5), .val (.int p6), .val (.int (3 : Int32)), .val (.int x103), .val (.int x105), .val (.int x107), .val (.ref b108), .val (.ref b110), .val (.ref b115), .val (.ref b228), .val (.long (((0 : Int64) + (x103).toInt64) + (x105).toInt64)), .second]) rfl k) ?_
    show Done p e below s _ _ _ (T245.setTop (mkF m 210 #[.val (.int p1), .val (.int p2), .val (.int p3), .val (.int p4), .val (.int p5), .val (.int p6), .val (.int (3 : Int32)), .val (.int x103), .val (.int x105), .val (.int x107), .val (.ref b108), .val (.ref b110), .val (.ref b115), .val (.ref b228), .val (.long (((0 : Int64) + (x103).toInt64) + (x105).toInt64)), .second] []))
    refine Done.step (fun t k => XS.iload X245.here hx rfl (hb hby at_210) rfl k) ?_
    show Done p e below s _ _ _ (T245.setTop (mkF m 212 #[.val (.int p1), .val (.int p2), .val (.int p3), .val (.int p4), .val (.int p5), .val (.int p6), .val (.int (3 : Int32)), .val (.int x103), .val (.int x105), .val (.int x107), .val (.ref b108), .val (.ref b110), .val (.ref b115), .val (.ref b228), .val (.long (((0 : Int64) + (x103).toInt64) + (x105).toInt64)), .second] [(.int (3 : Int32))]))
    refine Done.step (fun t k => XS.iconst X245.here hx rfl (hb hby at_212) k) ?_
    show Done p e below s _ _ _ (T245.setTop (mkF m 213 #[.val (.int p1), .val (.int p2), .val (.int p3), .val (.int p4), .val (.int p5), .val (.int p6), .val (.int (3 : Int32)), .val (.int x103), .val (.int x105), .val (.int x107), .val (.ref b108), .val (.ref b110), .val (.ref b115), .val (.ref b228), .val (.long (((0 : Int64) + (x103).toInt64) + (x105).toInt64)), .second] [(.int (3 : Int32)), (.int (3 : Int32))]))
    refine Done.step (fun t k => XS.icmpNo X245.here hx rfl (hb hby at_213) rfl (flt (by decide)).1 k) ?_
    show Done p e below s _ _ _ (T245.setTop (mkF m 216 #[.val (.int p1), .val (.int p2), .val (.int p3), .val (.int p4), .val (.int p5), .val (.int p6), .val (.int (3 : Int32)), .val (.int x103), .val (.int x105), .val (.int x107), .val (.ref b108), .val (.ref b110), .val (.ref b115), .val (.ref b228), .val (.long (((0 : Int64) + (x103).toInt64) + (x105).toInt64)), .second] []))
    refine Done.step (fun t k => XS.lload X245.here hx rfl (hb hby at_216) rfl k) ?_
    show Done p e below s _ _ _ (T245.setTop (mkF m 218 #[.val (.int p1), .val (.int p2), .val (.int p3), .val (.int p4), .val (.int p5), .val (.int p6), .val (.int (3 : Int32)), .val (.int x103), .val (.int x105), .val (.int x107), .val (.ref b108), .val (.ref b110), .val (.ref b115), .val (.ref b228), .val (.long (((0 : Int64) + (x103).toInt64) + (x105).toInt64)), .second] [(.long (((0 : Int64) + (x103).toInt64) + (x105).toInt64))]))
    refine Done.step (fun t k => XS.iload X245.here hx rfl (hb hby at_218) rfl k) ?_
    show Done p e below s _ _ _ (T245.setTop (mkF m 220 #[.val (.int p1), .val (.int p2), .val (.int p3), .val (.int p4), .val (.int p5), .val (.int p6), .val (.int (3 : Int32)), .val (.int x103), .val (.int x105), .val (.int x107), .val (.ref b108), .val (.ref b110), .val (.ref b115), .val (.ref b228), .val (.long (((0 : Int64) + (x103).toInt64) + (x105).toInt64)), .second] [(.int x107), (.long (((0 : Int64) + (x103).toInt64) + (x105).toInt64))]))
    refine Done.step (fun t k => XS.i2l X245.here hx rfl (hb hby at_220) rfl k) ?_
    show Done p e below s _ _ _ (T245.setTop (mkF m 221 #[.val (.int p1), .val (.int p2), .val (.int p3), .val (.int p4), .val (.int p5), .val (.int p6), .val (.int (3 : Int32)), .val (.int x103), .val (.int x105), .val (.int x107), .val (.ref b108), .val (.ref b110), .val (.ref b115), .val (.ref b228), .val (.long (((0 : Int64) + (x103).toInt64) + (x105).toInt64)), .second] [(.long (x107).toInt64), (.long (((0 : Int64) + (x103).toInt64) + (x105).toInt64))]))
    refine Done.step (fun t k => XS.ladd X245.here hx rfl (hb hby at_221) rfl k) ?_
    show Done p e below s _ _ _ (T245.setTop (mkF m 222 #[.val (.int p1), .val (.int p2), .val (.int p3), .val (.int p4), .val (.int p5), .val (.int p6), .val (.int (3 : Int32)), .val (.int x103), .val (.int x105), .val (.int x107), .val (.ref b108), .val (.ref b110), .val (.ref b115), .val (.ref b228), .val (.long (((0 : Int64) + (x103).toInt64) + (x105).toInt64)), .second] [(.long ((((0 : Int64) + (x103).toInt64) + (x105).toInt64) + (x107).toInt64))]))
    refine Done.step (fun t k => XS.lstore X245.here hx rfl (hb hby at_222) rfl (l' := #[.val (.int p1), .val (.int p2), .val (.int p3), .val (.int p4), .val (.int p5), .val (.int p6), .val (.int (3 : Int32)), .val (.int x103), .val (.int x105), .val (.int x107), .val (.ref b108), .val (.ref b110), .val (.ref b115), .val (.ref b228), .val (.long ((((0 : Int64) + (x103).toInt64) + (x105).toInt64) + (x107).toInt64)), .second]) rfl k) ?_
    show Done p e below s _ _ _ (T245.setTop (mkF m 224 #[.val (.int p1), .val (.int p2), .val (.int p3), .val (.int p4), .val (.int p5), .val (.int p6), .val (.int (3 : Int32)), .val (.int x103), .val (.int x105), .val (.int x107), .val (.ref b108), .val (.ref b110), .val (.ref b115), .val (.ref b228), .val (.long ((((0 : Int64) + (x103).toInt64) + (x105).toInt64) + (x107).toInt64)), .second] []))
    refine Done.step (fun t k => XS.aload X245.here hx rfl (hb hby at_224) rfl rfl k) ?_
    show Done p e below s _ _ _ (T245.setTop (mkF m 226 #[.val (.int p1), .val (.int p2), .val (.int p3), .val (.int p4), .val (.int p5), .val (.int p6), .val (.int (3 : Int32)), .val (.int x103), .val (.int x105), .val (.int x107), .val (.ref b108), .val (.ref b110), .val (.ref b115), .val (.ref b228), .val (.long ((((0 : Int64) + (x103).toInt64) + (x105).toInt64) + (x107).toInt64)), .second] [(.ref b228)]))
    obtain ⟨cq256, kq256, q256a, q256b, q256c⟩ := isOf hZ rfl f252
    obtain ⟨v256, _, ⟨T256, L256, k256, n256⟩, -, X256, ⟨Lc256, hQ256, l256, y256, z256⟩, st256⟩ := X245.virtualBack hx (y := (⟨"com/example/dendrocover/dendrocover/Network", "totalLength", "()J"⟩ : MethodName)) (z := (⟨"com/example/dendrocover/dendrocover/Network", "totalLength", "()J"⟩ : MethodName)) hown (mvT hZ (hw _ (List.mem_of_getElem? (i := 30) rfl))) (mvT hZ (hw _ (List.mem_of_getElem? (i := 31) rfl))) (notFace_of_selects (args := #[]) (mvT hZ (hw _ (List.mem_of_getElem? (i := 33) rfl)))) (mvT hZ (hw _ (List.mem_of_getElem? (i := 33) rfl))) (mvT hZ (hw _ (List.mem_of_getElem? (i := 32) rfl))) (by decide) (backOf (W := 0) (rm4 l Z a0 hw [] b228 (3 : Int32) b115 [p6, x103, x105, x107, (p6 ^^^ (1515870810 : Int32))] 3 T245.heap n0 Zk245 y245_0 y245_3 f251 rfl (Nat.le_of_ble_eq_true rfl) (Nat.le_of_ble_eq_true rfl)) hZ (hw _ (List.mem_of_getElem? (i := 34) rfl)) (hw _ (List.mem_of_getElem? (i := 9) rfl)) (by decide) (by decide)) q256a q256c (g := (mkF m 226 #[.val (.int p1), .val (.int p2), .val (.int p3), .val (.int p4), .val (.int p5), .val (.int p6), .val (.int (3 : Int32)), .val (.int x103), .val (.int x105), .val (.int x107), .val (.ref b108), .val (.ref b110), .val (.ref b115), .val (.ref b228), .val (.long ((((0 : Int64) + (x103).toInt64) + (x105).toInt64) + (x107).toInt64)), .second] [(.ref b228)])) rfl (by rw [hml]; rfl) (Steps.refl _) (argsL := []) (rest := []) (lenOf pd_2 rfl) rfl (by show 2 * 0 + _ ≤ _; exact Nat.le_of_eq rfl) (hb hby at_226) (fun _ _ => ⟨rfl, rfl, (by decide : 6 + 0 ≤ _), (by decide : 32 + 0 ≤ _)⟩)
    dsimp only [Pt.U, Pt.locs, Pt.cells, Pt.slots] at X256 l256 y256 z256 st256 hQ256
    subst l256 y256 z256
    refine Done.far st256 ?_
    obtain ⟨rfl, N256q, e256⟩ := hQ256
    have N256 := Fr.app N245 N256q
    show Done p e below s _ _ _ (T256.setTop (mkF m 229 #[.val (.int p1), .val (.int p2), .val (.int p3), .val (.int p4), .val (.int p5), .val (.int p6), .val (.int (3 : Int32)), .val (.int x103), .val (.int x105), .val (.int x107), .val (.ref b108), .val (.ref b110), .val (.ref b115), .val (.ref b228), .val (.long ((((0 : Int64) + (x103).toInt64) + (x105).toInt64) + (x107).toInt64)), .second] [(.long (TL [p6, x103, x105, x107, (p6 ^^^ (1515870810 : Int32))] 3))]))
    refine Done.step (fun t k => XS.lload X256.here hx rfl (hb hby at_229) rfl k) ?_
    show Done p e below s _ _ _ (T256.setTop (mkF m 231 #[.val (.int p1), .val (.int p2), .val (.int p3), .val (.int p4), .val (.int p5), .val (.int p6), .val (.int (3 : Int32)), .val (.int x103), .val (.int x105), .val (.int x107), .val (.ref b108), .val (.ref b110), .val (.ref b115), .val (.ref b228), .val (.long ((((0 : Int64) + (x103).toInt64) + (x105).toInt64) + (x107).toInt64)), .second] [(.long ((((0 : Int64) + (x103).toInt64) + (x105).toInt64) + (x107).toInt64)), (.long (TL [p6, x103, x105, x107, (p6 ^^^ (1515870810 : Int32))] 3))]))
    refine Done.step (fun t k => XS.lcmp X256.here hx rfl (hb hby at_231) rfl k) ?_
    show Done p e below s _ _ _ (T256.setTop (mkF m 232 #[.val (.int p1), .val (.int p2), .val (.int p3), .val (.int p4), .val (.int p5), .val (.int p6), .val (.int (3 : Int32)), .val (.int x103), .val (.int x105), .val (.int x107), .val (.ref b108), .val (.ref b110), .val (.ref b115), .val (.ref b228), .val (.long ((((0 : Int64) + (x103).toInt64) + (x105).toInt64) + (x107).toInt64)), .second] [(.int (lcmpW (TL [p6, x103, x105, x107, (p6 ^^^ (1515870810 : Int32))] 3) ((((0 : Int64) + (x103).toInt64) + (x105).toInt64) + (x107).toInt64)))]))
    refine Done.step (fun t k => XS.ifNo X256.here hx rfl (hb hby at_232) rfl ((if0 _ _).trans (teq ((lw_eq _ _).mpr (rfl : (TL [p6, x103, x105, x107, (p6 ^^^ (1515870810 : Int32))] 3) = ((((0 : Int64) + (x103).toInt64) + (x105).toInt64) + (x107).toInt64)))).2) k) ?_
    show Done p e below s _ _ _ (T256.setTop (mkF m 235 #[.val (.int p1), .val (.int p2), .val (.int p3), .val (.int p4), .val (.int p5), .val (.int p6), .val (.int (3 : Int32)), .val (.int x103), .val (.int x105), .val (.int x107), .val (.ref b108), .val (.ref b110), .val (.ref b115), .val (.ref b228), .val (.long ((((0 : Int64) + (x103).toInt64) + (x105).toInt64) + (x107).toInt64)), .second] []))
    refine Done.step (fun t k => XS.iconst X256.here hx rfl (hb hby at_235) k) ?_
    show Done p e below s _ _ _ (T256.setTop (mkF m 236 #[.val (.int p1), .val (.int p2), .val (.int p3), .val (.int p4), .val (.int p5), .val (.int p6), .val (.int (3 : Int32)), .val (.int x103), .val (.int x105), .val (.int x107), .val (.ref b108), .val (.ref b110), .val (.ref b115), .val (.ref b228), .val (.long ((((0 : Int64) + (x103).toInt64) + (x105).toInt64) + (x107).toInt64)), .second] [(.int (1 : Int32))]))
    refine Done.step (fun t k => XS.goto X256.here hx rfl (pc0 := 236) (pc' := 240) rfl (hb hby at_236) (by decide) (by decide) k) ?_
    show Done p e below s _ _ _ (T256.setTop (mkF m 240 #[.val (.int p1), .val (.int p2), .val (.int p3), .val (.int p4), .val (.int p5), .val (.int p6), .val (.int (3 : Int32)), .val (.int x103), .val (.int x105), .val (.int x107), .val (.ref b108), .val (.ref b110), .val (.ref b115), .val (.ref b228), .val (.long ((((0 : Int64) + (x103).toInt64) + (x105).toInt64) + (x107).toInt64)), .second] [(.int (1 : Int32))]))
    exact Done.narr X256 hx hlk hret (by simp) (hb hby at_240) (by decide) (by decide) ⟨rfl, N256⟩
set_option maxRecDepth 65536 in
set_option maxHeartbeats 40000000 in
theorem comes_1 {Post : Tables → Env → Array Value → State → Outcome → State → Prop} (hpost : ∀ tb e args s v u, (limb_1_1.after args s (.returned v) u = true ∧ limb_1_2.after args s (.returned v) u = true ∧ True) → FrameEnd s (.returned v) u (Jvm.fieldLocs frame_1_writes args s ++ Jvm.arrayLocs frame_1_arrays args s ++ Jvm.staticLocs frame_1_statics s) 24 128 → Post tb e args s (.returned v) u) :
    ArmFor flags0 classFile x code maxLocals ret World_1 tables_1 room_1 Calls_1 rest_1 Pre_1 Post := by
  intro l hfl _ _ p e ha hc hk s m args below hf hA hF happ hP
  obtain ⟨hcalls, hrest, hpre⟩ := hP
  obtain ⟨-, -, -, hnamed, -, -, -, hat⟩ := (Spec.applies_iff hf).mp happ
  obtain ⟨hg, hn⟩ := and_e (Cond.before_iff.mp (show (Jvm.Cond.and given_1 narrow_1).before args s = true from hpre))
  obtain ⟨hcnt, g0⟩ := and_e hg
  obtain ⟨u0, g1⟩ := and_e g0
  obtain ⟨u1, g2⟩ := and_e g1
  obtain ⟨u2, g3⟩ := and_e g2
  obtain ⟨u3, g4⟩ := and_e g3
  obtain ⟨u4, g5⟩ := and_e g4
  have u5 := g5
  obtain ⟨w0, w1, w2, w3, w4, w5, rfl⟩ : ∃ w0 w1 w2 w3 w4 w5 : Value, args = #[w0, w1, w2, w3, w4, w5] := by
    have hs : args.size = 6 := by simpa [Cond.value, given_1] using hcnt
    obtain ⟨L⟩ := args
    match L, hs with
    | [w0, w1, w2, w3, w4, w5], _ => exact ⟨w0, w1, w2, w3, w4, w5, rfl⟩
  have hw := fun d (hd : d ∈ tables_1) => atoms_spec (ws := Jvm.Cond.code x code maxLocals ret :: tables_1) hat d (List.mem_cons_of_mem _ hd)
  have hfit : Fit s := fun {y c} hc i hi => by
    obtain ⟨ha, rfl⟩ := Array.getElem?_eq_some_iff.mp hc
    have q := List.all_eq_true.mp ((Array.all_eq_true_iff_forall_mem.mp hF) _ (Array.getElem_mem ha)) i (List.mem_range.mpr hi)
    simpa [Array.getElem?_eq_getElem hi] using q
  obtain ⟨i0, ei0⟩ := is_v u0
  obtain rfl : w0 = (.int i0) := Option.some.inj ei0
  obtain ⟨i1, ei1⟩ := is_v u1
  obtain rfl : w1 = (.int i1) := Option.some.inj ei1
  obtain ⟨i2, ei2⟩ := is_v u2
  obtain rfl : w2 = (.int i2) := Option.some.inj ei2
  obtain ⟨i3, ei3⟩ := is_v u3
  obtain rfl : w3 = (.int i3) := Option.some.inj ei3
  obtain ⟨i4, ei4⟩ := is_v u4
  obtain rfl : w4 = (.int i4) := Option.some.inj ei4
  obtain ⟨i5, ei5⟩ := is_v u5
  obtain rfl : w5 = (.int i5) := Option.some.inj ei5
  obtain ⟨n, o, h1, h2, h3, _, L, rfl, ⟨rfl, N⟩, hq⟩ := rm0 l s _ hw tables_1 i0 i1 i2 i3 i4 i5 s.heap s.heap.size (Nat.le_refl _) p e ha hc hk s m _ below hf ((Spec.applies_iff_loose hf).mp happ).1 ⟨rfl, State.Warmed39.refl s, rfl⟩ trivial
  refine ⟨n, _, h1, h2, h3, hpost _ _ _ _ _ _ ⟨Cond.after_iff.mpr rfl, Cond.after_iff.mpr (eq_i res_at (Term.int_eval (1)) rfl), trivial⟩ ⟨hq.1, hq.2.1, (hq.2.2.sift fun y hy => Or.inr (N y hy)).mono (by decide) (by decide)⟩⟩
theorem main_1_1 : Claimed_1_1 := comes_1 fun _ _ _ _ _ _ h hF => ⟨h.1, hF⟩
theorem main_1_2 : Claimed_1_2 := comes_1 fun _ _ _ _ _ _ h hF => ⟨h.2.1, hF⟩
end Jvm.Pilot.@@N@@
namespace Jvm.Pilot.@@N@@
open Jvm Jvm.ClassFile Sem Op Lib Jvm.Free Jvm.Stand Jvm.Pilot.@@N@@.Jvm.D
/-! MADE BY PROGRAM (witnessworld.py) out of the Statement's table words and the real class files: 9 classes; the members and pool entries that the words name. The judged class is class 1, her method 2. -/
namespace start1
open Jvm.ClassFile
def u (s : String) : CpInfo := .utf8 (stringToUtf16 s)
/-- a pool by its gaps: so many unusable entries, then the entry; so many at the end -/
def gap : Nat → List CpInfo → List CpInfo
  | 0, r => r
  | n + 1, r => .unusable :: gap n r
def poolList (es : List (Nat × CpInfo)) (last : Nat) : List CpInfo := es.foldr (fun e r => gap e.1 (e.2 :: r)) (gap last [])
def pool (es : List (Nat × CpInfo)) (last : Nat) : Array CpInfo := ⟨poolList es last⟩
def fileOf (pool : Array CpInfo) (this : Nat) (attrs : Array Attribute := #[]) (ms : Array MethodInfo := #[]) (fl : Nat := 33) (sup : Nat := 0) (ifs : Array Nat := #[]) (fds : Array FieldInfo := #[]) : ClassFile where
  minorVersion := 0
  majorVersion := 65
  constantPool := pool
  accessFlags := fl
  thisClass := this
  superClass := sup
  interfaces := ifs
  fields := fds
  methods := ms
  attributes := attrs
def plain (name : String) (sup : Option ClassId) : Class where
  name := name
  kind := .ordinary
  loader := none
  accessFlags := 33
  super := sup
  interfaces := #[]
  cf := none
  fields := #[]
  methods := #[]
  instanceTypes := #[]
  staticTypes := #[]
  resolved := #[]
  callSites := []
  init := .initialized
  statics := none
  mirror := none

def pool0 : Array CpInfo := pool [(5, u "<init>"), (0, u "()V"), (1, .class_ 10), (1, u "java/lang/Object")] 113

def k0c0 : Code := { maxStack := 0, maxLocals := 1, code := object_method_1_code, exceptionTable := #[], attributes := #[] }
def k0m0 : Method := { name := "<init>", desc := "()V", sig := { parameters := [], returnType := none }, accessFlags := 1, code := some k0c0 }
/-- java/lang/Object -/
def k0 : Class := { plain "java/lang/Object" none with
  accessFlags := 33
  interfaces := #[]
  cf := some (fileOf pool0 8 #[] #[{ accessFlags := 1, nameIndex := 5, descriptorIndex := 6, attributes := #[] }] 33 0 #[] #[])
  fields := #[]
  methods := #[k0m0]
  instanceTypes := #[]
  staticTypes := #[]
  resolved := Array.replicate 124 none
  statics := none }

def pool1 : Array CpInfo := pool [(2, .class_ 4), (1, u "java/lang/Object"), (0, u "<init>"), (0, u "()V"), (0, .integer 2147483647), (0, .methodref 9 10), (0, .class_ 11), (0, .nameAndType 12 13), (0, u "com/example/dendrocover/dendrocover/NetworkTotalLengthPinLaw"), (0, u "positive"), (0, u "(I)I"), (0, .integer 1515870810), (0, .class_ 16), (0, u "com/example/dendrocover/dendrocover/Network"), (0, .methodref 15 18), (0, .nameAndType 5 19), (0, u "(II[I[I[I)V"), (0, .methodref 15 21), (0, .nameAndType 22 23), (0, u "totalLength"), (0, u "()J"), (3, u "law"), (0, u "(IIIIII)Z")] 4

def k1m0 : Method := { name := "<init>", desc := "()V", sig := { parameters := [], returnType := none }, accessFlags := 1, code := none }
def k1c1 : Code := { maxStack := 2, maxLocals := 2, code := method_2_code, exceptionTable := #[], attributes := #[] }
def k1m1 : Method := { name := "positive", desc := "(I)I", sig := { parameters := [.int], returnType := some .int }, accessFlags := 10, code := some k1c1 }
def k1c2 : Code := { maxStack := 7, maxLocals := 16, code := code, exceptionTable := #[], attributes := #[] }
def k1m2 : Method := { name := "law", desc := "(IIIIII)Z", sig := { parameters := [.int, .int, .int, .int, .int, .int], returnType := some .boolean }, accessFlags := 9, code := some k1c2 }
/-- com/example/dendrocover/dendrocover/NetworkTotalLengthPinLaw -/
def k1 : Class := { plain "com/example/dendrocover/dendrocover/NetworkTotalLengthPinLaw" (some 0) with
  accessFlags := 49
  interfaces := #[]
  cf := some (fileOf pool1 9 #[] #[{ accessFlags := 1, nameIndex := 5, descriptorIndex := 6, attributes := #[] }, { accessFlags := 10, nameIndex := 12, descriptorIndex := 13, attributes := #[] }, { accessFlags := 9, nameIndex := 27, descriptorIndex := 28, attributes := #[] }] 49 2 #[] #[])
  fields := #[]
  methods := #[k1m0, k1m1, k1m2]
  instanceTypes := #[]
  staticTypes := #[]
  resolved := Array.replicate 33 none
  statics := none }

def pool2 : Array CpInfo := pool [(1, .methodref 2 3), (0, .class_ 4), (0, .nameAndType 5 6), (0, u "java/lang/Object"), (0, u "<init>"), (0, u "()V"), (0, .fieldref 8 9), (0, .class_ 10), (0, .nameAndType 11 12), (0, u "com/example/dendrocover/dendrocover/Network"), (0, u "vertexCount"), (0, u "I"), (0, .fieldref 8 14), (0, .nameAndType 15 12), (0, u "roadCount"), (0, .fieldref 8 17), (0, .nameAndType 18 19), (0, u "firstEnd"), (0, u "[I"), (0, .fieldref 8 21), (0, .nameAndType 22 19), (0, u "secondEnd"), (0, .fieldref 8 24), (0, .nameAndType 25 19), (0, u "length"), (0, .fieldref 8 27), (0, .nameAndType 28 19), (0, u "incidenceStart"), (0, .fieldref 8 30), (0, .nameAndType 31 19), (0, u "incident"), (0, u "(II[I[I[I)V"), (6, u "totalLength"), (0, u "()J")] 6

def k2c0 : Code := { maxStack := 5, maxLocals := 8, code := prog_20_method_1_code, exceptionTable := #[], attributes := #[] }
def k2m0 : Method := { name := "<init>", desc := "(II[I[I[I)V", sig := { parameters := [.int, .int, (.array .int), (.array .int), (.array .int)], returnType := none }, accessFlags := 0, code := some k2c0 }
def k2c1 : Code := { maxStack := 4, maxLocals := 4, code := prog_20_method_7_code, exceptionTable := #[], attributes := #[] }
def k2m1 : Method := { name := "totalLength", desc := "()J", sig := { parameters := [], returnType := some .long }, accessFlags := 0, code := some k2c1 }
/-- com/example/dendrocover/dendrocover/Network -/
def k2 : Class := { plain "com/example/dendrocover/dendrocover/Network" (some 0) with
  accessFlags := 48
  interfaces := #[]
  cf := some (fileOf pool2 8 #[] #[{ accessFlags := 0, nameIndex := 5, descriptorIndex := 32, attributes := #[] }, { accessFlags := 0, nameIndex := 39, descriptorIndex := 40, attributes := #[] }] 48 2 #[] #[{ accessFlags := 18, nameIndex := 11, descriptorIndex := 12, attributes := #[] }, { accessFlags := 18, nameIndex := 15, descriptorIndex := 12, attributes := #[] }, { accessFlags := 18, nameIndex := 18, descriptorIndex := 19, attributes := #[] }, { accessFlags := 18, nameIndex := 22, descriptorIndex := 19, attributes := #[] }, { accessFlags := 18, nameIndex := 25, descriptorIndex := 19, attributes := #[] }, { accessFlags := 18, nameIndex := 28, descriptorIndex := 19, attributes := #[] }, { accessFlags := 18, nameIndex := 31, descriptorIndex := 19, attributes := #[] }])
  fields := #[{ name := "vertexCount", type := .int, accessFlags := 18, slot := 0, constantValue := 0 }, { name := "roadCount", type := .int, accessFlags := 18, slot := 1, constantValue := 0 }, { name := "firstEnd", type := (.array .int), accessFlags := 18, slot := 2, constantValue := 0 }, { name := "secondEnd", type := (.array .int), accessFlags := 18, slot := 3, constantValue := 0 }, { name := "length", type := (.array .int), accessFlags := 18, slot := 4, constantValue := 0 }, { name := "incidenceStart", type := (.array .int), accessFlags := 18, slot := 5, constantValue := 0 }, { name := "incident", type := (.array .int), accessFlags := 18, slot := 6, constantValue := 0 }]
  methods := #[k2m0, k2m1]
  instanceTypes := #[.int, .int, (.array .int), (.array .int), (.array .int), (.array .int), (.array .int)]
  staticTypes := #[]
  resolved := Array.replicate 47 none
  statics := none }

def pool3 : Array CpInfo := pool [(1, u "java/lang/Cloneable"), (0, .class_ 1), (0, u "java/lang/Object"), (0, .class_ 3)] 3

/-- java/lang/Cloneable -/
def k3 : Class := { plain "java/lang/Cloneable" (some 0) with
  accessFlags := 1537
  interfaces := #[]
  cf := some (fileOf pool3 2 #[] #[] 1537 4 #[] #[])
  fields := #[]
  methods := #[]
  instanceTypes := #[]
  staticTypes := #[]
  resolved := Array.replicate 8 none
  statics := none }

def pool4 : Array CpInfo := pool [(1, u "java/io/Serializable"), (0, .class_ 1), (0, u "java/lang/Object"), (0, .class_ 3)] 3

/-- java/io/Serializable -/
def k4 : Class := { plain "java/io/Serializable" (some 0) with
  accessFlags := 1537
  interfaces := #[]
  cf := some (fileOf pool4 2 #[] #[] 1537 4 #[] #[])
  fields := #[]
  methods := #[]
  instanceTypes := #[]
  staticTypes := #[]
  resolved := Array.replicate 8 none
  statics := none }

/-- the primitive byte -/
def k5 : Class := { plain "byte" none with kind := .primitive 'B', accessFlags := 0x411 }
/-- [B -/
def k6 : Class := { plain "[B" (some 0) with kind := .array 5 .byte, interfaces := #[3, 4], accessFlags := 1041 }

/-- the primitive int -/
def k7 : Class := { plain "int" none with kind := .primitive 'I', accessFlags := 0x411 }
/-- [I -/
def k8 : Class := { plain "[I" (some 0) with kind := .array 7 .int, interfaces := #[3, 4], accessFlags := 1041 }

def heap : Heap := #[]
def classes : Array Class := #[k0, k1, k2, k3, k4, k5, k6, k7, k8]
def interned : List (Array UInt16 × Addr) := []
def slotsUsed : Nat := 0
def theMethod : MethodId := ⟨1, 2⟩
def args0 : Array Value := #[.int 3, .int 5, .int 7, .int 2, .int 9, .int 1]
def aboutOver (below : List Frame) : State where
  vm := { classes := classes, interned := interned.toArray }
  heap := heap
  slotsUsed := slotsUsed
  threads := #[{ frames := .invoking theMethod args0 :: below }]
def below0 : List Frame := [.native { method := ⟨0, 0⟩, args := #[] }]
def about1 : State := aboutOver below0
def p0 : Program := .bare "" "" ""
def e0 : Env := launch0.env 0 0 0
theorem w_frames : about1.frames = Frame.invoking theMethod args0 :: below0 := rfl
set_option maxRecDepth 65536 in
theorem w_args : argsFit about1.vm theMethod args0 = true := by decide +kernel
set_option maxRecDepth 65536 in
theorem w_heap : heapFits about1 = true := by decide +kernel
set_option maxRecDepth 65536 in
theorem w_runnable : about1.curStatus? = some .runnable := by decide +kernel
set_option maxRecDepth 65536 in
theorem w_alone : about1.alone = true := by decide +kernel
set_option maxRecDepth 65536 in
theorem w_named : about1.methodNamed? x = some theMethod := by decide +kernel
set_option maxRecDepth 65536 in
theorem w_hears : about1.hears theMethod below0 = true := by decide +kernel
set_option maxRecDepth 65536 in
theorem w_ripe : about1.ripe theMethod args0 below0 = true := by decide +kernel
theorem w_running : about1.status = .running := rfl
set_option maxRecDepth 65536 in
theorem w_room : about1.hasRoom e0.platform room_1 = true :=
  launch0.hasRoom_least _ room_1 (by decide +kernel) (by decide +kernel) (by decide +kernel) (by decide +kernel) (by decide +kernel) (by decide +kernel)
theorem allAtoms_all (ts : List Jvm.Cond) (a : Array Jvm.Value) (st : Jvm.State) : (allAtoms ts).before a st = ts.all (fun c => c.before a st) := by
  induction ts with
  | nil => rfl
  | cons c t ih =>
    show (Jvm.Cond.and c (allAtoms t)).before a st = _
    rw [Jvm.Cond.before_and, ih, List.all_cons]
def words1 : List Jvm.Cond := Jvm.Cond.code x code maxLocals ret :: tables_1
/-- a 'code' word, met by the world's own term for the bytes: nothing is compared byte by byte -/
theorem code_word {y : MethodName} {bytes : ByteArray} {mx : Nat} {rt : Option FieldType} {a : Array Value} {s : State} {m : MethodId} {meth : Method} {c : Code} (h1 : s.methodNamed? y = some m) (h2 : s.vm.method? m = some meth) (h3 : meth.code = some c) (h4 : c.code = bytes)
    (h5 : (c.maxLocals == mx && c.exceptionTable.isEmpty && decide (c.maxStack ≤ mostOperands) && decide (meth.sig.returnType = rt) && !meth.locks && decide (parseMethodDescriptor y.desc = some meth.sig)) = true) : (Jvm.Cond.code y bytes mx rt).before a s = true := by
  simp only [Bool.and_eq_true, beq_iff_eq, Bool.not_eq_true', decide_eq_true_eq] at h5
  obtain ⟨⟨⟨⟨⟨g1, g2⟩, g3⟩, g4⟩, g5⟩, g6⟩ := h5
  simp [Cond.before, Cond.holds, Cond.value, h1, h2, h3, h4, g1, g2, g3, g4, g5, g6]
def isCode : Jvm.Cond → Bool
  | .code _ _ _ _ => true
  | _ => false
theorem all_split {L : List Jvm.Cond} {P : Jvm.Cond → Bool} (h1 : L.all (fun c => isCode c || P c) = true) (h2 : ∀ c ∈ L.filter isCode, P c = true) : L.all P = true := by
  refine List.all_eq_true.mpr fun c hc => ?_
  have h := List.all_eq_true.mp h1 c hc
  rcases Bool.eq_false_or_eq_true (isCode c) with hi | hi
  · exact h2 c (List.mem_filter.mpr ⟨hc, hi⟩)
  · simpa [hi] using h
set_option maxRecDepth 65536 in
theorem w_c0 : (Jvm.Cond.code x code maxLocals ret).before args0 about1 = true := code_word (m := ⟨1, 2⟩) (meth := k1m2) (c := k1c2) (by decide +kernel) rfl rfl rfl (by decide +kernel)
set_option maxRecDepth 65536 in
theorem w_c1 : (Jvm.Cond.code ({ cls := "com/example/dendrocover/dendrocover/NetworkTotalLengthPinLaw", name := "positive", desc := "(I)I" } : Jvm.MethodName) method_2_code (2 : Nat) (Option.some Jvm.ClassFile.FieldType.int)).before args0 about1 = true := code_word (m := ⟨1, 1⟩) (meth := k1m1) (c := k1c1) (by decide +kernel) rfl rfl rfl (by decide +kernel)
set_option maxRecDepth 65536 in
theorem w_c2 : (Jvm.Cond.code ({ cls := "com/example/dendrocover/dendrocover/Network", name := "<init>", desc := "(II[I[I[I)V" } : Jvm.MethodName) prog_20_method_1_code (8 : Nat) (Option.none : Option Jvm.ClassFile.FieldType)).before args0 about1 = true := code_word (m := ⟨2, 0⟩) (meth := k2m0) (c := k2c0) (by decide +kernel) rfl rfl rfl (by decide +kernel)
set_option maxRecDepth 65536 in
theorem w_c3 : (Jvm.Cond.code ({ cls := "java/lang/Object", name := "<init>", desc := "()V" } : Jvm.MethodName) object_method_1_code (1 : Nat) (Option.none : Option Jvm.ClassFile.FieldType)).before args0 about1 = true := code_word (m := ⟨0, 0⟩) (meth := k0m0) (c := k0c0) (by decide +kernel) rfl rfl rfl (by decide +kernel)
set_option maxRecDepth 65536 in
theorem w_c4 : (Jvm.Cond.code ({ cls := "com/example/dendrocover/dendrocover/Network", name := "totalLength", desc := "()J" } : Jvm.MethodName) prog_20_method_7_code (4 : Nat) (Option.some Jvm.ClassFile.FieldType.long)).before args0 about1 = true := code_word (m := ⟨2, 1⟩) (meth := k2m1) (c := k2c1) (by decide +kernel) rfl rfl rfl (by decide +kernel)
def codes1 : List Jvm.Cond := [Jvm.Cond.code x code maxLocals ret, Jvm.Cond.code ({ cls := "com/example/dendrocover/dendrocover/NetworkTotalLengthPinLaw", name := "positive", desc := "(I)I" } : Jvm.MethodName) method_2_code (2 : Nat) (Option.some Jvm.ClassFile.FieldType.int), Jvm.Cond.code ({ cls := "com/example/dendrocover/dendrocover/Network", name := "<init>", desc := "(II[I[I[I)V" } : Jvm.MethodName) prog_20_method_1_code (8 : Nat) (Option.none : Option Jvm.ClassFile.FieldType), Jvm.Cond.code ({ cls := "java/lang/Object", name := "<init>", desc := "()V" } : Jvm.MethodName) object_method_1_code (1 : Nat) (Option.none : Option Jvm.ClassFile.FieldType), Jvm.Cond.code ({ cls := "com/example/dendrocover/dendrocover/Network", name := "totalLength", desc := "()J" } : Jvm.MethodName) prog_20_method_7_code (4 : Nat) (Option.some Jvm.ClassFile.FieldType.long)]
set_option maxRecDepth 65536 in
theorem codes_eq : words1.filter isCode = codes1 := rfl
theorem w_codes : ∀ c ∈ words1.filter isCode, c.before args0 about1 = true := by
  rw [codes_eq]
  intro c hc
  simp only [codes1, List.mem_cons, List.not_mem_nil, or_false] at hc
  rcases hc with rfl | rfl | rfl | rfl | rfl
  · exact w_c0
  · exact w_c1
  · exact w_c2
  · exact w_c3
  · exact w_c4
set_option maxRecDepth 65536 in
theorem w_t1 : (words1.take 24).all (fun c => isCode c || c.before args0 about1) = true := by decide +kernel
set_option maxRecDepth 65536 in
theorem w_t2 : (words1.drop 24).all (fun c => isCode c || c.before args0 about1) = true := by decide +kernel
theorem w_tables : (allAtoms (Jvm.Cond.code x code maxLocals ret :: tables_1)).before args0 about1 = true := by
  rw [allAtoms_all]
  show words1.all (fun c => c.before args0 about1) = true
  refine all_split ?_ w_codes
  rw [← List.take_append_drop 24 words1, List.all_append, w_t1, w_t2]
  rfl
set_option maxRecDepth 65536 in
theorem w_case : (Jvm.Cond.and given_1 narrow_1).before args0 about1 = true := by decide +kernel
theorem w_applies : (headSpec (Jvm.Cond.code x code maxLocals ret :: tables_1) room_1).applies x e0.platform about1 = true :=
  (Spec.applies_iff w_frames).mpr ⟨w_running, w_runnable, w_alone, w_named, w_hears, w_ripe, w_room, w_tables⟩
theorem atStart : AtStart classFile x code maxLocals ret World_1 tables_1 room_1 Calls_1 rest_1 Pre_1 launch0 p0 e0 about1 theMethod args0 below0 :=
  ⟨lists_1, trivial, launch0.admits_env _ _ _, launch0.least_env, fairChoices_fair.cas, fairChoices_fair.clock, w_frames, w_args, w_heap, w_applies, trivial, trivial, w_case⟩
end start1
theorem witness_1 : WitnessClaimed_1 := ⟨start1.p0, start1.e0, start1.about1, start1.theMethod, start1.args0, start1.below0, start1.atStart⟩
end Jvm.Pilot.@@N@@
