import JvmDerived
import JvmDerived.Pilot.@@N@@Statement
import JvmDerived.Pilot.@@N@@Code
set_option linter.unusedVariables false
set_option linter.unusedSimpArgs false
namespace Jvm.RoadKit
open Sem ClassFile Op Lib Jvm.Stand Jvm.Free Jvm.LawKit
section New
variable {p : Program} {l : Launch} {e : Env} {R : Room} {s : State} {m : MethodId} {args : Array Value} {below : List Frame} {meth : Method} {c : Code} {T : State} {locs : List Loc} {cells slots : Nat}
theorem retI (X : Stand p l e R s m args below meth c T locs cells slots) (hx : p.tables.exec = Jvm.exec) {pc : Nat} {Ls : Array Slot} {z : Int32} {rest : List Value} (hret : meth.sig.returnType = some .int) (hd : decode c.code pc = .ok (.ireturn, 1)) {fs : List Frame}
    (hl : ∀ (f : JFrame) (acts : List Action), f.method = m → f.locked = none → f.entered = [] → (doReturn e (T.setTop f) acts (some (.int z))).1 = T.setFrames fs) : Steps p.tables e below (T.setTop (mkF m pc Ls (.int z :: rest))) (T.setFrames fs) := by
  have hm' : T.vm.method? m = some meth := X.method'
  have hn : narrow .int (.int z) = .int z := rfl
  show Steps p.tables e below (T.setTop { method := m, pc := pc, locals := Ls, stack := _ :: rest, locked := none }) _
  jvm_step X.here [X.here.top, hx, hd, hm', hret, hn]
  first | (intro acts; rw [hl _ acts rfl rfl rfl]) | rw [hl _ _ rfl rfl rfl]
  exact Steps.refl _
end New
end Jvm.RoadKit
namespace Jvm.Pilot.@@N@@
open Jvm Jvm.ClassFile Sem Op Lib Jvm.Free Jvm.Stand Jvm.LawKit Jvm.RoadKit Bundle Jvm.Pilot.@@N@@.Jvm.D
section OwnKit
/-- the rest of a body ends well: from the state U on it comes to its end, what it returns and leaves is as Q says -/
def Done (p : Program) (e : Env) (below : List Frame) (s : State) (Q : Option Value → Heap → List Loc → Prop) (C S : Nat) (U : State) : Prop :=
  ∃ s₂ o, Steps p.tables e below U s₂ ∧ s₂.status = .running ∧ Ended s₂ below o ∧ ∃ v L, o = .returned v ∧ Q v s₂.heap L ∧ FrameEnd s o s₂ L C S
variable {p : Program} {l : Launch} {e : Env} {R : Room} {s : State} {m : MethodId} {args : Array Value} {below : List Frame} {meth : Method} {c : Code} {T U U' : State} {locs : List Loc} {cells slots C S : Nat} {Q : Option Value → Heap → List Loc → Prop}
theorem Done.step (h : ∀ t, Steps p.tables e below U' t → Steps p.tables e below U t) (d : Done p e below s Q C S U') : Done p e below s Q C S U := by
  obtain ⟨s₂, o, h1, r⟩ := d
  exact ⟨s₂, o, h _ h1, r⟩
theorem Done.far (h : Steps p.tables e below U U') (d : Done p e below s Q C S U') : Done p e below s Q C S U := by
  obtain ⟨s₂, o, h1, r⟩ := d
  exact ⟨s₂, o, h.trans h1, r⟩
theorem Done.mono {Q' : Option Value → Heap → List Loc → Prop} (d : Done p e below s Q C S U) (h : ∀ v h L, Q v h L → Q' v h L) : Done p e below s Q' C S U := by
  obtain ⟨s₂, o, h1, h2, h3, v, L, h4, h5, h6⟩ := d
  exact ⟨s₂, o, h1, h2, h3, v, L, h4, h _ _ _ h5, h6⟩
theorem Done.int (X : Stand p l e R s m args below meth c T locs cells slots) (hx : p.tables.exec = Jvm.exec) (hlk : meth.locks = false) (hret : meth.sig.returnType = some .int) {pc : Nat} {Ls : Array Slot} {z : Int32} {rest : List Value} (hd : decode c.code pc = .ok (.ireturn, 1)) (hc : cells ≤ C) (hs : slots ≤ S)
    (hq : Q (some (.int z)) T.heap locs) : Done p e below s Q C S (T.setTop (mkF m pc Ls (.int z :: rest))) := by
  obtain ⟨fs, hr, hrun, hended, hW, hsame⟩ := X.leave (v := some (.int z)) (fun h => by rw [hret] at h; cases h)
  exact ⟨_, _, retI X hx hret hd hr, hrun, hended, _, _, rfl, hq, ⟨_, rfl⟩, hW, hsame.mono hc hs⟩
theorem Done.narr (X : Stand p l e R s m args below meth c T locs cells slots) (hx : p.tables.exec = Jvm.exec) (hlk : meth.locks = false) {t : FieldType} (hret : meth.sig.returnType = some t) (ht : t = .boolean ∨ t = .byte ∨ t = .char ∨ t = .short) {pc : Nat} {Ls : Array Slot} {z : Int32} {rest : List Value} (hd : decode c.code pc = .ok (.ireturn, 1)) (hc : cells ≤ C) (hs : slots ≤ S)
    (hq : Q (some (.int (nar t z))) T.heap locs) : Done p e below s Q C S (T.setTop (mkF m pc Ls (.int z :: rest))) := by
  obtain ⟨fs, hr, hrun, hended, hW, hsame⟩ := X.leave (v := some (.int (nar t z))) (fun h => by rw [hret] at h; cases h)
  exact ⟨_, _, retN X hx hret ht hd hr, hrun, hended, _, _, rfl, hq, ⟨_, rfl⟩, hW, hsame.mono hc hs⟩
theorem Done.long (X : Stand p l e R s m args below meth c T locs cells slots) (hx : p.tables.exec = Jvm.exec) (hlk : meth.locks = false) (hret : meth.sig.returnType = some .long) {pc : Nat} {Ls : Array Slot} {z : Int64} {rest : List Value} (hd : decode c.code pc = .ok (.lreturn, 1)) (hc : cells ≤ C) (hs : slots ≤ S)
    (hq : Q (some (.long z)) T.heap locs) : Done p e below s Q C S (T.setTop (mkF m pc Ls (.long z :: rest))) := by
  obtain ⟨fs, hr, hrun, hended, hW, hsame⟩ := X.leave (v := some (.long z)) (fun h => by rw [hret] at h; cases h)
  exact ⟨_, _, retOut X hx hret rfl (Or.inr (Or.inl ⟨rfl, rfl, z, rfl⟩)) hd hr, hrun, hended, _, _, rfl, hq, ⟨_, rfl⟩, hW, hsame.mono hc hs⟩
theorem Done.ref (X : Stand p l e R s m args below meth c T locs cells slots) (hx : p.tables.exec = Jvm.exec) (hlk : meth.locks = false) {t : FieldType} (hret : meth.sig.returnType = some t) (ht : t.isReference = true) {pc : Nat} {Ls : Array Slot} {w : Value} {rest : List Value} (hw : w.isRef = true) (hn : narrow t w = w) (hd : decode c.code pc = .ok (.areturn, 1)) (hc : cells ≤ C) (hs : slots ≤ S)
    (hq : Q (some w) T.heap locs) : Done p e below s Q C S (T.setTop (mkF m pc Ls (w :: rest))) := by
  obtain ⟨fs, hr, hrun, hended, hW, hsame⟩ := X.leave (v := some w) (fun h => by rw [hret] at h; cases h)
  exact ⟨_, _, retOut X hx hret hn (Or.inr (Or.inr (Or.inr (Or.inr ⟨rfl, ht, hw⟩)))) hd hr, hrun, hended, _, _, rfl, hq, ⟨_, rfl⟩, hW, hsame.mono hc hs⟩
theorem Done.void (X : Stand p l e R s m args below meth c T locs cells slots) (hx : p.tables.exec = Jvm.exec) (hlk : meth.locks = false) (hret : meth.sig.returnType = none) {pc : Nat} {Ls : Array Slot} (hd : decode c.code pc = .ok (.return_, 1)) (hc : cells ≤ C) (hs : slots ≤ S)
    (hq : Q none T.heap locs) : Done p e below s Q C S (T.setTop (mkF m pc Ls [])) := by
  obtain ⟨fs, hr, hrun, hended, hW, hsame⟩ := X.leave (v := none) (fun _ => rfl)
  exact ⟨_, _, X.returnOut hx hret hd hr, hrun, hended, _, _, rfl, hq, ⟨_, rfl⟩, hW, hsame.mono hc hs⟩
variable {Z : State} {h h' h0 : Heap} {a b : Addr} {ty : FieldType} {vs : List Value} {sl : Nat} {v x : Value} {ws : List Addr} {j : Int32} {g : JFrame} {rest : List Value}
/-- an array whose slots are just the list vs -/
def Ax (Z : State) (h : Heap) (a : Addr) (ty : FieldType) (vs : List Value) : Prop := ∃ c : Cell, Arr Z h a c ty ∧ c.slots = vs.toArray
theorem Ax.lt (F : Ax Z h a ty vs) : a < h.size := by obtain ⟨c, A, -⟩ := F; exact A.lt
theorem Ax.ext (F : Ax Z h a ty vs) (E : Ext h h') : Ax Z h' a ty vs := by obtain ⟨c, A, r⟩ := F; exact ⟨c, A.ext E, r⟩
theorem Ax.other (F : Ax Z h b ty vs) (W : Wr h h' a sl v) (q : b ≠ a) : Ax Z h' b ty vs := by obtain ⟨c, A, r⟩ := F; exact ⟨c, A.other W q, r⟩
theorem Ax.keep (F : Ax Z h a ty vs) (K : Keep h h' ws) (q : a ∉ ws) : Ax Z h' a ty vs := by obtain ⟨c, A, r⟩ := F; exact ⟨c, ⟨K.2.1 a c A.1 q, A.2⟩, r⟩
theorem own_stakeep {C n d : String} (F : Sta Z h C n d v) (K : Keep h h' ws) (q : ∀ y ∈ ws, ∃ cell : Cell, h[y]? = some cell ∧ cell.vm.isStatics = false) : Sta Z h' C n d v := by
  obtain ⟨cf, i, k, f, st, cell, h1, h2, h3, h4, h5, h6, h7⟩ := F
  refine ⟨cf, i, k, f, st, cell, h1, h2, h3, h4, K.2.1 st cell h5 (fun z => ?_), h6, h7⟩
  obtain ⟨c', g1, g2⟩ := q st z
  cases h5.symm.trans g1; rw [g2] at h6; cases h6
theorem own_unst {C : String} (F : Exa Z h a C) : ∃ cell : Cell, h[a]? = some cell ∧ cell.vm.isStatics = false := by
  obtain ⟨cell, k, h1, -, -, h4, -⟩ := F; exact ⟨cell, h1, h4⟩
theorem fld_long {t : Term} {D n d : String} {k : Int64} {y : Addr} {av : Array Value} (hh : (Jvm.Cond.eq (Term.field t D n d) (Term.long k)).value av Z none Z [] = some true) (ht : t.eval av Z none [] Z = some (.ref y)) : Fld Z Z.heap y D n d (.long k) := by
  obtain ⟨u, w, e1, e2, k1, k2⟩ := cmp_v (Or.inl hh)
  have e3 : (Term.long k).eval av Z none [] Z = some (.long k) := rfl
  rw [e3] at e2; cases e2
  obtain ⟨z, rfl⟩ := k2
  have q := gotT (eq_L e1 e3) hh
  subst q
  rw [fld_at ht] at e1
  exact Fld.start e1
theorem fld_int {t : Term} {D n d : String} {k : Int32} {y : Addr} {av : Array Value} (hh : (Jvm.Cond.eq (Term.field t D n d) (Term.int k)).value av Z none Z [] = some true) (ht : t.eval av Z none [] Z = some (.ref y)) : Fld Z Z.heap y D n d (.int k) := by
  obtain ⟨u, w, e1, e2, k1, k2⟩ := cmp_v (Or.inl hh)
  have e3 : (Term.int k).eval av Z none [] Z = some (.int k) := rfl
  rw [e3] at e2; cases e2
  obtain ⟨z, rfl⟩ := k2
  have q : z = k := by simpa [Jvm.Cond.value, e1, e3] using hh
  subst q
  rw [fld_at ht] at e1
  exact Fld.start e1
theorem Ax.set (F : Ax Z h a ty vs) (W : Wr h h' a sl v) : Ax Z h' a ty (vs.set sl v) := by
  obtain ⟨c, A, r⟩ := F
  exact ⟨_, A.same W, by rw [show (c.setSlot sl v).slots = c.slots.setIfInBounds sl v from rfl, r, List.setIfInBounds_toArray]⟩
theorem Ax.new {k : ClassId} {n : Int32} {i : Nat} (A : Arr Z h a (newA k ty n) ty) (hi : n.toNatClampNeg = i) : Ax Z h a ty (List.replicate i (defaultValue ty)) :=
  ⟨_, A, by rw [show (newA k ty n).slots = Array.replicate n.toNatClampNeg (defaultValue ty) from rfl, hi, List.toArray_replicate]⟩
theorem Ax.size {c : Cell} (r : c.slots = vs.toArray) : c.slots.size = vs.length := by rw [r, List.size_toArray]
theorem Ax.inb {c : Cell} (r : c.slots = vs.toArray) (hj : ¬ j < 0) (hl : j.toNatClampNeg < vs.length) : ¬ (j < 0 ∨ c.slots.size ≤ j.toNatClampNeg) := fun q => q.elim hj fun u => by
  rw [Ax.size r] at u; exact absurd hl (Nat.not_lt.mpr u)
theorem Ax.get {c : Cell} (r : c.slots = vs.toArray) (hat : vs[j.toNatClampNeg]? = some x) : c.slots[j.toNatClampNeg]? = some x := by rw [r, List.getElem?_toArray]; exact hat
theorem Ax.lens (hat : vs[j.toNatClampNeg]? = some x) : j.toNatClampNeg < vs.length := (List.getElem?_eq_some_iff.mp hat).1
theorem ldI (X : Stand p l e R s m args below meth c T locs cells slots) (hx : p.tables.exec = Jvm.exec) (hZ : Z.Warmed39 s.vm) (eT : T.heap = h) (F : Ax Z h a .int vs) (hj : ¬ j < 0) (hat : vs[j.toNatClampNeg]? = some x) (hg : g.method = m) (hs : g.stack = .int j :: .ref a :: rest) (hd : decode c.code g.pc = .ok (.iaload, 1)) :
    ∀ target, Steps p.tables e below (T.setTop { g with pc := g.pc + 1, stack := x :: rest }) target → Steps p.tables e below (T.setTop g) target := by
  obtain ⟨cl, A, r⟩ := F
  exact X.iaload hx (by rw [eT]; exact A.1) (State.isArrayOf_alike hZ.alike A.2.1) A.2.2 (Ax.inb r hj (Ax.lens hat)) (Ax.get r hat) hg hs hd
theorem ldJ (X : Stand p l e R s m args below meth c T locs cells slots) (hx : p.tables.exec = Jvm.exec) (hZ : Z.Warmed39 s.vm) (eT : T.heap = h) (F : Ax Z h a .long vs) (hj : ¬ j < 0) (hat : vs[j.toNatClampNeg]? = some x) (hg : g.method = m) (hs : g.stack = .int j :: .ref a :: rest) (hd : decode c.code g.pc = .ok (.laload, 1)) :
    ∀ target, Steps p.tables e below (T.setTop { g with pc := g.pc + 1, stack := x :: rest }) target → Steps p.tables e below (T.setTop g) target := by
  obtain ⟨cl, A, r⟩ := F
  exact X.laload hx (by rw [eT]; exact A.1) (State.isArrayOf_alike hZ.alike A.2.1) A.2.2 (Ax.inb r hj (Ax.lens hat)) (Ax.get r hat) hg hs hd
theorem ldB (X : Stand p l e R s m args below meth c T locs cells slots) (hx : p.tables.exec = Jvm.exec) (hZ : Z.Warmed39 s.vm) (eT : T.heap = h) (F : Ax Z h a .byte vs) (hj : ¬ j < 0) (hat : vs[j.toNatClampNeg]? = some x) (hg : g.method = m) (hs : g.stack = .int j :: .ref a :: rest) (hd : decode c.code g.pc = .ok (.baload, 1)) :
    ∀ target, Steps p.tables e below (T.setTop { g with pc := g.pc + 1, stack := x :: rest }) target → Steps p.tables e below (T.setTop g) target := by
  obtain ⟨cl, A, r⟩ := F
  exact X.baloadBytes hx (by rw [eT]; exact A.1) (State.isArrayOf_alike hZ.alike A.2.1) A.2.2 (Ax.inb r hj (Ax.lens hat)) (Ax.get r hat) hg hs hd
theorem ldZ (X : Stand p l e R s m args below meth c T locs cells slots) (hx : p.tables.exec = Jvm.exec) (hZ : Z.Warmed39 s.vm) (eT : T.heap = h) (F : Ax Z h a .boolean vs) (hj : ¬ j < 0) (hat : vs[j.toNatClampNeg]? = some x) (hg : g.method = m) (hs : g.stack = .int j :: .ref a :: rest) (hd : decode c.code g.pc = .ok (.baload, 1)) :
    ∀ target, Steps p.tables e below (T.setTop { g with pc := g.pc + 1, stack := x :: rest }) target → Steps p.tables e below (T.setTop g) target := by
  obtain ⟨cl, A, r⟩ := F
  exact X.baloadBooleans hx (by rw [eT]; exact A.1) (State.isArrayOf_alike hZ.alike A.2.1) A.2.2 (Ax.inb r hj (Ax.lens hat)) (Ax.get r hat) hg hs hd
theorem lenA (X : Stand p l e R s m args below meth c T locs cells slots) (hx : p.tables.exec = Jvm.exec) (hZ : Z.Warmed39 s.vm) (eT : T.heap = h) (F : Ax Z h a ty vs) {n : Int32} (hn : vs.length.toInt32 = n) (hg : g.method = m) (hs : g.stack = .ref a :: rest) (hd : decode c.code g.pc = .ok (.arraylength, 1)) :
    ∀ target, Steps p.tables e below (T.setTop { g with pc := g.pc + 1, stack := .int n :: rest }) target → Steps p.tables e below (T.setTop g) target := by
  obtain ⟨cl, A, r⟩ := F
  intro target k
  refine X.arraylength hx (by rw [eT]; exact A.1) (State.isArrayOf_alike hZ.alike A.2.1) hg hs hd target ?_
  rw [Ax.size r, hn]; exact k
theorem stoI (X : Stand p l e R s m args below meth c T locs cells slots) (hx : p.tables.exec = Jvm.exec) (hZ : Z.Warmed39 s.vm) (eT : T.heap = h) (F : Ax Z h a .int vs) {y : Int32} (hj : ¬ j < 0) {i : Nat} (hi : j.toNatClampNeg = i) (hl : i < vs.length) (hg : g.method = m) (hs : g.stack = .int y :: .int j :: .ref a :: rest) (hd : decode c.code g.pc = .ok (.iastore, 1)) :
    ∃ T' h', Stand p l e R s m args below meth c T' (locs ++ [⟨a, j.toNatClampNeg⟩]) cells slots ∧ T'.heap = h' ∧ Wr h h' a j.toNatClampNeg (.int y) ∧ Ax Z h' a .int (vs.set i (.int y)) ∧ ∀ target, Steps p.tables e below (T'.setTop { g with pc := g.pc + 1, stack := rest }) target → Steps p.tables e below (T.setTop g) target := by
  obtain ⟨cl, A, r⟩ := F
  obtain ⟨T', h', X', e', W, st⟩ := stI X hx hZ eT A (Ax.inb r hj (by rw [hi]; exact hl)) hg hs hd
  exact ⟨T', h', X', e', W, hi ▸ Ax.set ⟨cl, A, r⟩ W, st⟩
theorem stoJ (X : Stand p l e R s m args below meth c T locs cells slots) (hx : p.tables.exec = Jvm.exec) (hZ : Z.Warmed39 s.vm) (eT : T.heap = h) (F : Ax Z h a .long vs) {y : Int64} (hj : ¬ j < 0) {i : Nat} (hi : j.toNatClampNeg = i) (hl : i < vs.length) (hg : g.method = m) (hs : g.stack = .long y :: .int j :: .ref a :: rest) (hd : decode c.code g.pc = .ok (.lastore, 1)) :
    ∃ T' h', Stand p l e R s m args below meth c T' (locs ++ [⟨a, j.toNatClampNeg⟩]) cells slots ∧ T'.heap = h' ∧ Wr h h' a j.toNatClampNeg (.long y) ∧ Ax Z h' a .long (vs.set i (.long y)) ∧ ∀ target, Steps p.tables e below (T'.setTop { g with pc := g.pc + 1, stack := rest }) target → Steps p.tables e below (T.setTop g) target := by
  obtain ⟨cl, A, r⟩ := F
  obtain ⟨T', h', X', e', W, st⟩ := stJ X hx hZ eT A (Ax.inb r hj (by rw [hi]; exact hl)) hg hs hd
  exact ⟨T', h', X', e', W, hi ▸ Ax.set ⟨cl, A, r⟩ W, st⟩
theorem stoB (X : Stand p l e R s m args below meth c T locs cells slots) (hx : p.tables.exec = Jvm.exec) (hZ : Z.Warmed39 s.vm) (eT : T.heap = h) (F : Ax Z h a .byte vs) {y : Int32} (hj : ¬ j < 0) {i : Nat} (hi : j.toNatClampNeg = i) (hl : i < vs.length) (hg : g.method = m) (hs : g.stack = .int y :: .int j :: .ref a :: rest) (hd : decode c.code g.pc = .ok (.bastore, 1)) :
    ∃ T' h', Stand p l e R s m args below meth c T' (locs ++ [⟨a, j.toNatClampNeg⟩]) cells slots ∧ T'.heap = h' ∧ Wr h h' a j.toNatClampNeg (.int (nar .byte y)) ∧ Ax Z h' a .byte (vs.set i (.int (nar .byte y))) ∧ ∀ target, Steps p.tables e below (T'.setTop { g with pc := g.pc + 1, stack := rest }) target → Steps p.tables e below (T.setTop g) target := by
  obtain ⟨cl, A, r⟩ := F
  obtain ⟨T', h', X', e', W, st⟩ := stB X hx hZ eT A (Ax.inb r hj (by rw [hi]; exact hl)) hg hs hd
  exact ⟨T', h', X', e', W, hi ▸ Ax.set ⟨cl, A, r⟩ W, st⟩
theorem stoZ (X : Stand p l e R s m args below meth c T locs cells slots) (hx : p.tables.exec = Jvm.exec) (hZ : Z.Warmed39 s.vm) (eT : T.heap = h) (F : Ax Z h a .boolean vs) {y : Int32} (hj : ¬ j < 0) {i : Nat} (hi : j.toNatClampNeg = i) (hl : i < vs.length) (hg : g.method = m) (hs : g.stack = .int y :: .int j :: .ref a :: rest) (hd : decode c.code g.pc = .ok (.bastore, 1)) :
    ∃ T' h', Stand p l e R s m args below meth c T' (locs ++ [⟨a, j.toNatClampNeg⟩]) cells slots ∧ T'.heap = h' ∧ Wr h h' a j.toNatClampNeg (.int (nar .boolean y)) ∧ Ax Z h' a .boolean (vs.set i (.int (nar .boolean y))) ∧ ∀ target, Steps p.tables e below (T'.setTop { g with pc := g.pc + 1, stack := rest }) target → Steps p.tables e below (T.setTop g) target := by
  obtain ⟨cl, A, r⟩ := F
  obtain ⟨T', h', X', e', W, st⟩ := stZ X hx hZ eT A (Ax.inb r hj (by rw [hi]; exact hl)) hg hs hd
  exact ⟨T', h', X', e', W, hi ▸ Ax.set ⟨cl, A, r⟩ W, st⟩
theorem cloX (X : Stand p l e R s m args below meth c T locs cells slots) (hx : p.tables.exec = Jvm.exec) (hZ : Z.Warmed39 s.vm) {a0 : Array Value} {own ad : String} {index : Nat} (hown : s.vm.findClass own = some m.cls)
    (w1 : (Cond.methodLink own index ⟨ad, "clone", "()Ljava/lang/Object;"⟩).before a0 Z = true) (w2 : (Cond.sameMethod ad "java/lang/Object" "clone" "()Ljava/lang/Object;").before a0 Z = true) (w3 : (Cond.native ⟨"java/lang/Object", "clone", "()Ljava/lang/Object;"⟩).before a0 Z = true)
    (w4 : (Cond.instanceMethod ⟨"java/lang/Object", "clone", "()Ljava/lang/Object;"⟩).before a0 Z = true) (w5 : (Cond.selects ad ⟨ad, "clone", "()Ljava/lang/Object;"⟩ ⟨"java/lang/Object", "clone", "()Ljava/lang/Object;"⟩).before a0 Z = true) (w6 : (Cond.castable ad "java/lang/Cloneable").before a0 Z = true)
    (eT : T.heap = h) (F : Ax Z h a ty vs) (E : Exa Z h a ad) (G : ∀ v ∈ vs, fits ty v = true) (hg : g.method = m) (hsize : g.locals.size = c.maxLocals) (hs : g.stack = .ref a :: rest) (hd : decode c.code g.pc = .ok (.invokevirtual index, 3))
    (hf : 1 ≤ R.frames) {W cap : Nat} (hW : 2 * g.monitorRoom + (rest.map fun v => v.category).sum ≤ W) (hl : W + 14 ≤ R.locals) (hcap : vs.length ≤ cap) (hc : cells + 1 ≤ R.cells) (hsl : slots + cap ≤ R.slots) :
    ∃ T' h', Stand p l e R s m args below meth c T' locs (cells + 1) (slots + cap) ∧ T'.heap = h' ∧ Ext h h' ∧ Ax Z h' h.size ty vs ∧ Exa Z h' h.size ad ∧
      ∀ target, Steps p.tables e below (T'.setTop { g with pc := g.pc + 3, stack := .ref h.size :: rest }) target → Steps p.tables e below (T.setTop g) target := by
  obtain ⟨cl, A, r⟩ := F
  have FC : FitC Z cl := fitC_of A fun i hi v hv => by
    rw [r, List.getElem?_toArray] at hv
    exact G v (List.mem_of_getElem? hv)
  obtain ⟨T', h', X', e', ex, A', E', st⟩ := cloneA X hx hZ hown w1 w2 w3 w4 w5 w6 eT A E FC hg hsize hs hd hf hW hl (by rw [Ax.size r]; exact hcap) hc hsl
  exact ⟨T', h', X', e', ex, ⟨cloneOf cl, A', r⟩, E', st⟩
end OwnKit
theorem pd_0 : parseMethodDescriptor "(II[I[I[I)V" = some ⟨[.int, .int, (.array .int), (.array .int), (.array .int)], none⟩ := by decide +kernel
theorem pd_1 : parseMethodDescriptor "(II)I" = some ⟨[.int, .int], some .int⟩ := by decide +kernel
theorem own_dupx2 {tb : Tables} [Ours tb] {e : Env} {below : List Frame} {T target : State} {m : MethodId} {c : Code} {g : JFrame} (h : At T m c below) (hx : tb.exec = Jvm.exec) (hg : g.method = m) {x y : Int32} {r : Addr} {rest : List Value} (hd : decode c.code g.pc = .ok (.dup_x2, 1)) (hs : g.stack = .int x :: .int y :: .ref r :: rest)
    (hr : Steps tb e below (T.setTop { g with pc := g.pc + 1, stack := .int x :: .int y :: .ref r :: .int x :: rest }) target) : Steps tb e below (T.setTop g) target := by
  subst hg
  jvm_step h [h.top, hx, hd, hs, Value.category]
  exact hr
def fv (F : List Int32) (i : Nat) : Int := (F[i]?.getD 0).toInt
def cE (f s : Nat → Int) : Nat → Int → Int
  | 0, _ => 0
  | n + 1, x => cE f s n x + (if f (n + 1) = x then 1 else 0) + (if s (n + 1) = x then 1 else 0)
def cL (f s : Nat → Int) : Nat → Int → Int
  | 0, _ => 0
  | n + 1, x => cL f s n x + (if f (n + 1) ≤ x then 1 else 0) + (if s (n + 1) ≤ x then 1 else 0)
theorem cE_succ (f s : Nat → Int) (n : Nat) (x : Int) : cE f s (n + 1) x = cE f s n x + (if f (n + 1) = x then 1 else 0) + (if s (n + 1) = x then 1 else 0) := rfl
theorem cL_succ (f s : Nat → Int) (n : Nat) (x : Int) : cL f s (n + 1) x = cL f s n x + (if f (n + 1) ≤ x then 1 else 0) + (if s (n + 1) ≤ x then 1 else 0) := rfl
theorem cE_rng (f s : Nat → Int) (n : Nat) (x : Int) : 0 ≤ cE f s n x ∧ cE f s n x ≤ 2 * n := by
  induction n with
  | zero => exact ⟨Int.le_refl _, Int.le_refl _⟩
  | succ n ih => rw [cE_succ]; split <;> split <;> omega
theorem cL_rng (f s : Nat → Int) (n : Nat) (x : Int) : 0 ≤ cL f s n x ∧ cL f s n x ≤ 2 * n := by
  induction n with
  | zero => exact ⟨Int.le_refl _, Int.le_refl _⟩
  | succ n ih => rw [cL_succ]; split <;> split <;> omega
theorem cL_step (f s : Nat → Int) (n : Nat) (x : Int) : cL f s n x = cL f s n (x - 1) + cE f s n x := by
  induction n with
  | zero => rfl
  | succ n ih => rw [cL_succ, cL_succ, cE_succ, ih]; repeat' split <;> omega
theorem cE_mono (f s : Nat → Int) (i n : Nat) (x : Int) (h : i ≤ n) : cE f s i x ≤ cE f s n x := by
  induction n with
  | zero => rw [Nat.le_zero.mp h]; exact Int.le_refl _
  | succ n ih =>
    by_cases q : i = n + 1
    · rw [q]; exact Int.le_refl _
    · have := ih (by omega); rw [cE_succ]; split <;> split <;> omega
theorem cL_zero (f s : Nat → Int) (n : Nat) (v : Int) (hf : ∀ i, 1 ≤ i → i ≤ n → 1 ≤ f i ∧ f i ≤ v) (hs : ∀ i, 1 ≤ i → i ≤ n → 1 ≤ s i ∧ s i ≤ v) : cL f s n 0 = 0 := by
  induction n with
  | zero => rfl
  | succ n ih =>
    have a := hf (n + 1) (by omega) (by omega)
    have b := hs (n + 1) (by omega) (by omega)
    rw [cL_succ, ih (fun i h1 h2 => hf i h1 (by omega)) (fun i h1 h2 => hs i h1 (by omega)), if_neg (by omega), if_neg (by omega)]; rfl
def SV (ss : List Int32) (g : Int → Int) : Prop := ∀ (j : Nat) (y : Int32), ss[j]? = some y → 1 ≤ j → y.toInt = g j
theorem SV.set {ss : List Int32} {g : Int → Int} (H : SV ss g) {k : Nat} {x : Int} (hk : (k : Int) = x) {z : Int32} {d : Int} (hz : z.toInt = d) {ss' : List Int32} (e : ss' = ss.set k z) : SV ss' (fun j => if j = x then d else g j) := by
  subst e
  intro j y hy hj
  rw [List.getElem?_set] at hy
  by_cases q : k = j
  · subst q
    rw [if_pos rfl] at hy
    split at hy
    · cases hy; simp [hk, hz]
    · cases hy
  · rw [if_neg q] at hy
    have := H j y hy hj
    show y.toInt = if (j : Int) = x then d else g j
    rw [if_neg (by omega)]; exact this
theorem SV.same {ss : List Int32} {g g' : Int → Int} (H : SV ss g) (q : ∀ j : Int, 1 ≤ j → g j = g' j) : SV ss g' := fun j y hy hj => by rw [← q j (by omega)]; exact H j y hy hj
theorem own_len {ss ss' : List Int32} {k : Nat} {z : Int32} {n : Nat} (h : ss.length = n) (e : ss' = ss.set k z) : ss'.length = n := by rw [e, List.length_set, h]
theorem own_fv {F : List Int32} {k : Nat} {x : Int32} (h : F[k]? = some x) : fv F k = x.toInt := by unfold fv; rw [h]; rfl
theorem own_clamp {x : Int32} (h : 0 ≤ x.toInt) : (x.toNatClampNeg : Int) = x.toInt := by rw [Int32.toNatClampNeg]; omega
theorem own_nneg {x : Int32} (h : 0 ≤ x.toInt) : ¬ x < 0 := by rw [Int32.lt_iff_toInt_lt]; show ¬ _ < (0 : Int); omega
theorem own_plus {x y : Int32} {d : Int} (hd : y.toInt = d) (h1 : -2147483648 ≤ x.toInt + d) (h2 : x.toInt + d < 2147483648) : (x + y).toInt = x.toInt + d := by
  have a := c_iadd x y; have r := rng32 (x + y); omega
theorem own_minus {x y : Int32} {d : Int} (hd : y.toInt = d) (h1 : -2147483648 ≤ x.toInt - d) (h2 : x.toInt - d < 2147483648) : (x - y).toInt = x.toInt - d := by
  have a := c_isub x y; have r := rng32 (x - y); omega
theorem own_one : (1 : Int32).toInt = 1 := rfl
theorem own_get {xs : List Int32} {k : Nat} (h : k < xs.length) : ∃ x, xs[k]? = some x := ⟨_, List.getElem?_eq_getElem h⟩
theorem own_idx {x : Int32} {n m : Nat} (h : x.toInt = (n : Int)) (hl : n < m) : 0 ≤ x.toInt ∧ x.toNatClampNeg = n ∧ x.toNatClampNeg < m := by
  have : x.toNatClampNeg = n := by rw [Int32.toNatClampNeg]; omega
  exact ⟨by omega, this, by omega⟩
theorem own_in {x : Int32} {vv m : Nat} (h : 1 ≤ x.toInt ∧ x.toInt ≤ (vv : Int) + 1) (hl : m = vv + 2) : 0 ≤ x.toInt ∧ x.toNatClampNeg < m ∧ (x.toNatClampNeg : Int) = x.toInt ∧ 1 ≤ x.toNatClampNeg := by
  have := own_clamp (x := x) (by omega)
  omega
theorem own_in0 {x : Int32} {k m : Nat} (h0 : 0 ≤ x.toInt) (h : x.toInt < (k : Int)) (hl : m = k) : x.toNatClampNeg < m ∧ (x.toNatClampNeg : Int) = x.toInt := by
  have := own_clamp h0
  omega
theorem SV.at {ss : List Int32} {g : Int → Int} (H : SV ss g) {x y : Int32} (h : ss[x.toNatClampNeg]? = some y) (h1 : 1 ≤ x.toNatClampNeg) (hc : (x.toNatClampNeg : Int) = x.toInt) : y.toInt = g x.toInt := by rw [← hc]; exact H _ _ h h1
theorem own_m1 {x : Int32} {b : Int} (h : 1 ≤ x.toInt ∧ x.toInt ≤ b) : (x - (1 : Int32)).toInt = x.toInt - 1 ∧ 0 ≤ (x - (1 : Int32)).toInt ∧ (x - (1 : Int32)).toInt < b := by
  have r := rng32 x
  have := own_minus (x := x) own_one (by omega) (by omega)
  omega
theorem own_p1 {x : Int32} {b : Int} (h : 0 ≤ x.toInt ∧ x.toInt ≤ b) (hb : b < 2147483647) : (x + (1 : Int32)).toInt = x.toInt + 1 := own_plus own_one (by omega) (by omega)
theorem own_dec {x : Int32} {n : Nat} (h : x.toInt = ((n + 1 : Nat) : Int)) : (x + (-1 : Int32)).toInt = (n : Int) := by
  have r := rng32 x
  rw [own_plus (d := -1) rfl (by omega) (by omega)]; omega
theorem own_inc {x : Int32} {n : Int} (h : x.toInt = n) (hb : n < 2147483647) : (x + (1 : Int32)).toInt = n + 1 := by
  have r := rng32 x
  rw [own_plus own_one (by omega) (by omega)]; omega
theorem own_cast (tt : Nat) : (tt : Int) = ((tt + 1 : Nat) : Int) - 1 := by omega
theorem net_a {f s : Nat → Int} {nn jj : Nat} {y g : Int} (hj : jj + 1 ≤ nn) (hs : s (jj + 1) = y) (hg : g = cL f s nn (y - 1) + cE f s (jj + 1) y) : 1 ≤ g ∧ g ≤ ((2 * nn : Nat) : Int) := by
  have k1 := cE_succ f s jj y
  rw [if_pos hs] at k1
  have k2 := cE_mono f s (jj + 1) nn y hj
  have k3 := cL_step f s nn y
  have k4 := cL_rng f s nn y
  have k5 := cL_rng f s nn (y - 1)
  have k6 := cE_rng f s jj y
  have k7 : 0 ≤ (if f (jj + 1) = y then (1 : Int) else 0) := by split <;> decide
  generalize (if f (jj + 1) = y then (1 : Int) else 0) = q at *
  omega
theorem net_b {f s : Nat → Int} {nn jj : Nat} {x y gx gy : Int} (hj : jj + 1 ≤ nn) (hf : f (jj + 1) = x) (hs : s (jj + 1) = y) (hgy : gy = cL f s nn (y - 1) + cE f s (jj + 1) y) (hgx : gx = if x = y then gy - 1 else cL f s nn (x - 1) + cE f s (jj + 1) x) : gx = cL f s nn (x - 1) + cE f s jj x + 1 ∧ 1 ≤ gx ∧ gx ≤ ((2 * nn : Nat) : Int) := by
  have e : gx = cL f s nn (x - 1) + cE f s jj x + 1 := by
    have k1 := cE_succ f s jj x
    rw [if_pos hf] at k1
    by_cases q : x = y
    · rw [if_pos q] at hgx
      rw [if_pos (hs.trans q.symm)] at k1
      rw [hgx, hgy, ← q]; omega
    · rw [if_neg q] at hgx
      rw [if_neg (fun u => q (u.symm.trans hs))] at k1
      rw [hgx, k1]; omega
  have k1 := cE_succ f s jj x
  rw [if_pos hf] at k1
  have k2 := cE_mono f s (jj + 1) nn x hj
  have k3 := cL_step f s nn x
  have k4 := cL_rng f s nn x
  have k5 := cL_rng f s nn (x - 1)
  have k6 := cE_rng f s jj x
  have k7 : 0 ≤ (if s (jj + 1) = x then (1 : Int) else 0) := by split <;> decide
  generalize (if s (jj + 1) = x then (1 : Int) else 0) = q at *
  omega
theorem net_c {f s : Nat → Int} {nn jj : Nat} {x y gx gy : Int} (hf : f (jj + 1) = x) (hs : s (jj + 1) = y) (hgy : gy = cL f s nn (y - 1) + cE f s (jj + 1) y) (hgx : gx = cL f s nn (x - 1) + cE f s jj x + 1) (j : Int) : (if j = x then gx - 1 else if j = y then gy - 1 else cL f s nn (j - 1) + cE f s (jj + 1) j) = cL f s nn (j - 1) + cE f s jj j := by
  have k1 := cE_succ f s jj j
  by_cases q1 : j = x
  · rw [if_pos q1, q1]; omega
  · rw [if_neg q1]
    rw [if_neg (fun u => q1 (u.symm.trans hf))] at k1
    by_cases q2 : j = y
    · rw [if_pos q2]
      rw [if_pos (hs.trans q2.symm)] at k1
      rw [hgy, ← q2, k1]; omega
    · rw [if_neg q2]
      rw [if_neg (fun u => q2 (u.symm.trans hs))] at k1
      rw [k1]; omega
theorem net_d {f s : Nat → Int} {ii : Nat} {x y gx gy : Int} (hf : f (ii + 1) = x) (hs : s (ii + 1) = y) (hgx : gx = cE f s ii x) (hgy : gy = if y = x then gx + 1 else cE f s ii y) (j : Int) : (if j = y then gy + 1 else if j = x then gx + 1 else cE f s ii j) = cE f s (ii + 1) j := by
  have k1 := cE_succ f s ii j
  by_cases q1 : j = y
  · rw [if_pos q1]
    rw [if_pos (hs.trans q1.symm)] at k1
    by_cases q2 : y = x
    · rw [if_pos q2] at hgy
      rw [if_pos (hf.trans (q2.symm.trans q1.symm))] at k1
      rw [k1, hgy, hgx, q1, q2]
    · rw [if_neg q2] at hgy
      rw [if_neg (fun u : f (ii + 1) = j => q2 (q1.symm.trans (u.symm.trans hf)))] at k1
      rw [k1, hgy, q1]; omega
  · rw [if_neg q1]
    rw [if_neg (fun u : s (ii + 1) = j => q1 (u.symm.trans hs))] at k1
    by_cases q2 : j = x
    · rw [if_pos q2]
      rw [if_pos (hf.trans q2.symm)] at k1
      rw [k1, hgx, q2]; omega
    · rw [if_neg q2]
      rw [if_neg (fun u : f (ii + 1) = j => q2 (u.symm.trans hf))] at k1
      rw [k1]; omega
theorem net_e {f s : Nat → Int} {ii nn : Nat} {x y gx gy : Int} (hi : ii ≤ nn) (hgx : gx = cE f s ii x) (hgy : gy = if y = x then gx + 1 else cE f s ii y) : 0 ≤ gy ∧ gy ≤ 2 * (nn : Int) + 1 := by
  have k1 := cE_rng f s ii x
  have k2 := cE_rng f s ii y
  rw [hgy]
  split <;> omega
theorem net_f {f s : Nat → Int} {nn : Nat} (tt : Nat) (j : Int) : (if j = (tt : Int) then cL f s nn (tt : Int) else if j < (tt : Int) then cL f s nn j else cE f s nn j) = if j < ((tt + 1 : Nat) : Int) then cL f s nn j else cE f s nn j := by
  by_cases q : j = (tt : Int)
  · rw [if_pos q, if_pos (by omega), q]
  · rw [if_neg q]
    by_cases q2 : j < (tt : Int)
    · rw [if_pos q2, if_pos (by omega)]
    · rw [if_neg q2, if_neg (by omega)]
theorem net_g {f s : Nat → Int} {nn tt : Nat} {a b : Int32} (ha : a.toInt = cL f s nn ((tt : Int) - 1)) (hb : b.toInt = cE f s nn (tt : Int)) (hn : nn ≤ 100) : (a + b).toInt = cL f s nn (tt : Int) := by
  have k1 := cE_rng f s nn (tt : Int)
  have k2 := cL_rng f s nn ((tt : Int) - 1)
  have k3 := cL_step f s nn (tt : Int)
  rw [own_plus (d := b.toInt) rfl (by omega) (by omega)]; omega
theorem d1_135 : decode prog_20_method_1_code 135 = .ok (.iload 7, 2) := by decide +kernel
theorem d1_137 : decode prog_20_method_1_code 137 = .ok (.iconst 1, 1) := by decide +kernel
theorem d1_138 : decode prog_20_method_1_code 138 = .ok (.if_icmp .lt 52, 3) := by decide +kernel
theorem d1_141 : decode prog_20_method_1_code 141 = .ok (.aload_n 0, 1) := by decide +kernel
theorem d1_142 : decode prog_20_method_1_code 142 = .ok (.getfield 29, 3) := by decide +kernel
theorem d1_145 : decode prog_20_method_1_code 145 = .ok (.aload_n 0, 1) := by decide +kernel
theorem d1_146 : decode prog_20_method_1_code 146 = .ok (.getfield 26, 3) := by decide +kernel
theorem d1_149 : decode prog_20_method_1_code 149 = .ok (.aload 4, 2) := by decide +kernel
theorem d1_151 : decode prog_20_method_1_code 151 = .ok (.iload 7, 2) := by decide +kernel
theorem d1_153 : decode prog_20_method_1_code 153 = .ok (.iaload, 1) := by decide +kernel
theorem d1_154 : decode prog_20_method_1_code 154 = .ok (.dup2, 1) := by decide +kernel
theorem d1_155 : decode prog_20_method_1_code 155 = .ok (.iaload, 1) := by decide +kernel
theorem d1_156 : decode prog_20_method_1_code 156 = .ok (.iconst 1, 1) := by decide +kernel
theorem d1_157 : decode prog_20_method_1_code 157 = .ok (.isub, 1) := by decide +kernel
theorem d1_158 : decode prog_20_method_1_code 158 = .ok (.dup_x2, 1) := by decide +kernel
theorem d1_159 : decode prog_20_method_1_code 159 = .ok (.iastore, 1) := by decide +kernel
theorem d1_160 : decode prog_20_method_1_code 160 = .ok (.iload 7, 2) := by decide +kernel
theorem d1_162 : decode prog_20_method_1_code 162 = .ok (.iastore, 1) := by decide +kernel
theorem d1_163 : decode prog_20_method_1_code 163 = .ok (.aload_n 0, 1) := by decide +kernel
theorem d1_164 : decode prog_20_method_1_code 164 = .ok (.getfield 29, 3) := by decide +kernel
theorem d1_167 : decode prog_20_method_1_code 167 = .ok (.aload_n 0, 1) := by decide +kernel
theorem d1_168 : decode prog_20_method_1_code 168 = .ok (.getfield 26, 3) := by decide +kernel
theorem d1_171 : decode prog_20_method_1_code 171 = .ok (.aload_n 3, 1) := by decide +kernel
theorem d1_172 : decode prog_20_method_1_code 172 = .ok (.iload 7, 2) := by decide +kernel
theorem d1_174 : decode prog_20_method_1_code 174 = .ok (.iaload, 1) := by decide +kernel
theorem d1_175 : decode prog_20_method_1_code 175 = .ok (.dup2, 1) := by decide +kernel
theorem d1_176 : decode prog_20_method_1_code 176 = .ok (.iaload, 1) := by decide +kernel
theorem d1_177 : decode prog_20_method_1_code 177 = .ok (.iconst 1, 1) := by decide +kernel
theorem d1_178 : decode prog_20_method_1_code 178 = .ok (.isub, 1) := by decide +kernel
theorem d1_179 : decode prog_20_method_1_code 179 = .ok (.dup_x2, 1) := by decide +kernel
theorem d1_180 : decode prog_20_method_1_code 180 = .ok (.iastore, 1) := by decide +kernel
theorem d1_181 : decode prog_20_method_1_code 181 = .ok (.iload 7, 2) := by decide +kernel
theorem d1_183 : decode prog_20_method_1_code 183 = .ok (.iastore, 1) := by decide +kernel
theorem d1_184 : decode prog_20_method_1_code 184 = .ok (.iinc 7 (-1), 3) := by decide +kernel
theorem d1_187 : decode prog_20_method_1_code 187 = .ok (.goto (-52), 3) := by decide +kernel
theorem d1_190 : decode prog_20_method_1_code 190 = .ok (.return_, 1) := by decide +kernel
set_option maxRecDepth 65536 in
set_option maxHeartbeats 40000000 in
theorem lp135 {p : Program} {l : Launch} {e : Env} {s : State} {m : MethodId} {args : Array Value} {below : List Frame} {meth : Method} {c : Code} {Z : State} {a0 : Array Value} {n0 : Nat} {hO : Heap} (a1 : Addr) (p2 p3 : Int32) (a4 a5 a6 : Addr) (F S : List Int32) (nn vv : Nat) (b1 b2 : Addr) (i6 : Int32)
    (hx : p.tables.exec = Jvm.exec) (hZ : Z.Warmed39 s.vm) (hw : ∀ d ∈ tables_1, d.before a0 Z = true) (hby : c.code = prog_20_method_1_code) (hml : c.maxLocals = 8) (hown : s.vm.findClass "com/example/dendrocover/dendrocover/Network" = some m.cls) (hlk : meth.locks = false) (hret : meth.sig.returnType = (none : Option FieldType)) (hnm : meth.name = "<init>") (g1 : n0 ≤ a1) (hv : p2.toInt = vv) (hv2 : vv ≤ 256) (hn : p3.toInt = nn) (hn2 : nn ≤ 2) (hF : nn < F.length) (hS : nn < S.length) (hf : ∀ i, 1 ≤ i → i ≤ nn → 1 ≤ fv F i ∧ fv F i ≤ (vv : Int)) (hs : ∀ i, 1 ≤ i → i ≤ nn → 1 ≤ fv S i ∧ fv S i ≤ (vv : Int)) (gb : n0 ≤ b1) (gi : n0 ≤ b2) (sz_b1 : hO.size ≤ b1) (sz_b2 : hO.size ≤ b2) (ne_a1_a4 : a1 ≠ a4) (ne_a1_a5 : a1 ≠ a5) (ne_a1_b1 : a1 ≠ b1) (ne_a4_b1 : a4 ≠ b1) (ne_a5_b1 : a5 ≠ b1) (ne_a1_b2 : a1 ≠ b2) (ne_a4_b2 : a4 ≠ b2) (ne_a5_b2 : a5 ≠ b2) (ne_b1_b2 : b1 ≠ b2) :
    ∀ (k : Nat) (T : State) (locs : List Loc) (h0 : Heap) (ss : List Int32) (ws : List Int32) (i7 : Int32) (ii : Nat) (X0 : Stand p l e ({ frames := 1, cells := 2, slots := 262, locals := 12 } : Room) s m args below meth c T locs 2 262) (N0 : Fr n0 locs) (Z0 : n0 ≤ h0.size) (e0 : T.heap = h0) (K0 : Keep hO h0 [a1]) (E1 : Exa Z h0 a1 "com/example/dendrocover/dendrocover/Network") (F_roadCount : Fld Z h0 a1 "com/example/dendrocover/dendrocover/Network" "roadCount" "I" (.int p3)) (F_firstEnd : Fld Z h0 a1 "com/example/dendrocover/dendrocover/Network" "firstEnd" "[I" (.ref a4)) (F_secondEnd : Fld Z h0 a1 "com/example/dendrocover/dendrocover/Network" "secondEnd" "[I" (.ref a5)) (F_length : Fld Z h0 a1 "com/example/dendrocover/dendrocover/Network" "length" "[I" (.ref a6)) (F_incidenceStart : Fld Z h0 a1 "com/example/dendrocover/dendrocover/Network" "incidenceStart" "[I" (.ref b1)) (F_incident : Fld Z h0 a1 "com/example/dendrocover/dendrocover/Network" "incident" "[I" (.ref b2)) (A4 : Ax Z h0 a4 .int (F.map Value.int)) (A5 : Ax Z h0 a5 .int (S.map Value.int)) (Ab : Ax Z h0 b1 .int (ss.map Value.int)) (Ai : Ax Z h0 b2 .int (ws.map Value.int)) (hlen : ss.length = vv + 2) (hwl : ws.length = 2 * nn) (hk : ii < k) (hi : i7.toInt = ii) (hii : ii ≤ nn) (hsv : SV ss (fun j => cL (fv F) (fv S) nn (j - 1) + cE (fv F) (fv S) ii j)), Done p e below s (fun v h L => v = none ∧ Fr n0 L ∧ Keep hO h [a1] ∧ Exa Z h a1 "com/example/dendrocover/dendrocover/Network" ∧ Fld Z h a1 "com/example/dendrocover/dendrocover/Network" "roadCount" "I" (.int p3) ∧ Fld Z h a1 "com/example/dendrocover/dendrocover/Network" "firstEnd" "[I" (.ref a4) ∧ Fld Z h a1 "com/example/dendrocover/dendrocover/Network" "secondEnd" "[I" (.ref a5) ∧ Fld Z h a1 "com/example/dendrocover/dendrocover/Network" "length" "[I" (.ref a6)) ({ frames := 1, cells := 2, slots := 262, locals := 12 } : Room).cells ({ frames := 1, cells := 2, slots := 262, locals := 12 } : Room).slots (T.setTop (mkF m 135 #[.val (.ref a1), .val (.int p2), .val (.int p3), .val (.ref a4), .val (.ref a5), .val (.ref a6), .val (.int i6), .val (.int i7)] [])) := by
  intro k
  induction k with
  | zero => intro T locs h0 ss ws i7 ii X0 N0 Z0 e0 K0 E1 F_roadCount F_firstEnd F_secondEnd F_length F_incidenceStart F_incident A4 A5 Ab Ai hlen hwl hk hi hii hsv; exact absurd hk (Nat.not_lt_zero _)
  | succ k ih =>
    intro T locs h0 ss ws i7 ii X0 N0 Z0 e0 K0 E1 F_roadCount F_firstEnd F_secondEnd F_length F_incidenceStart F_incident A4 A5 Ab Ai hlen hwl hk hi hii hsv
    show Done p e below s _ _ _ (T.setTop (mkF m 135 #[.val (.ref a1), .val (.int p2), .val (.int p3), .val (.ref a4), .val (.ref a5), .val (.ref a6), .val (.int i6), .val (.int i7)] []))
    refine Done.step (fun t k => XS.iload X0.here hx rfl (hb hby d1_135) rfl k) ?_
    show Done p e below s _ _ _ (T.setTop (mkF m 137 #[.val (.ref a1), .val (.int p2), .val (.int p3), .val (.ref a4), .val (.ref a5), .val (.ref a6), .val (.int i6), .val (.int i7)] [(.int i7)]))
    refine Done.step (fun t k => XS.iconst X0.here hx rfl (hb hby d1_137) k) ?_
    show Done p e below s _ _ _ (T.setTop (mkF m 138 #[.val (.ref a1), .val (.int p2), .val (.int p3), .val (.ref a4), .val (.ref a5), .val (.ref a6), .val (.int i6), .val (.int i7)] [(.int (1 : Int32)), (.int i7)]))
    by_cases c1 : i7 < (1 : Int32)
    · refine Done.step (fun t k => XS.icmpYes X0.here hx rfl (pc0 := 138) (pc' := 190) rfl (hb hby d1_138) rfl (tlt c1).1 (by decide) (by decide) k) ?_
      show Done p e below s _ _ _ (T.setTop (mkF m 190 #[.val (.ref a1), .val (.int p2), .val (.int p3), .val (.ref a4), .val (.ref a5), .val (.ref a6), .val (.int i6), .val (.int i7)] []))
      exact Done.void X0 hx hlk hret (hb hby d1_190) (by decide) (by decide) ⟨rfl, N0, (by rw [e0]; exact ⟨K0, E1, F_roadCount, F_firstEnd, F_secondEnd, F_length⟩)⟩
    · refine Done.step (fun t k => XS.icmpNo X0.here hx rfl (hb hby d1_138) rfl (flt c1).1 k) ?_
      show Done p e below s _ _ _ (T.setTop (mkF m 141 #[.val (.ref a1), .val (.int p2), .val (.int p3), .val (.ref a4), .val (.ref a5), .val (.ref a6), .val (.int i6), .val (.int i7)] []))
      have hge : 1 ≤ i7.toInt := by have := Int.not_lt.mp (fun q => c1 (Int32.lt_iff_toInt_lt.mpr q)); have e1 : (1 : Int32).toInt = 1 := rfl; omega
      refine Done.step (fun t k => XS.aloadN X0.here hx rfl (hb hby d1_141) rfl rfl k) ?_
      show Done p e below s _ _ _ (T.setTop (mkF m 142 #[.val (.ref a1), .val (.int p2), .val (.int p3), .val (.ref a4), .val (.ref a5), .val (.ref a6), .val (.int i6), .val (.int i7)] [(.ref a1)]))
      obtain ⟨T101, X101, e101, st101⟩ := getF X0 hx hZ hown (host := "") (Or.inl (hw _ (List.mem_of_getElem? (i := 23) rfl))) Via.refl e0 F_incident (g := (mkF m 142 #[.val (.ref a1), .val (.int p2), .val (.int p3), .val (.ref a4), .val (.ref a5), .val (.ref a6), .val (.int i6), .val (.int i7)] [(.ref a1)])) rfl rfl (hb hby d1_142)
      refine Done.step st101 ?_
      show Done p e below s _ _ _ (T101.setTop (mkF m 145 #[.val (.ref a1), .val (.int p2), .val (.int p3), .val (.ref a4), .val (.ref a5), .val (.ref a6), .val (.int i6), .val (.int i7)] [(.ref b2)]))
      refine Done.step (fun t k => XS.aloadN X101.here hx rfl (hb hby d1_145) rfl rfl k) ?_
      show Done p e below s _ _ _ (T101.setTop (mkF m 146 #[.val (.ref a1), .val (.int p2), .val (.int p3), .val (.ref a4), .val (.ref a5), .val (.ref a6), .val (.int i6), .val (.int i7)] [(.ref a1), (.ref b2)]))
      obtain ⟨T102, X102, e102, st102⟩ := getF X101 hx hZ hown (host := "") (Or.inl (hw _ (List.mem_of_getElem? (i := 21) rfl))) Via.refl e101 F_incidenceStart (g := (mkF m 146 #[.val (.ref a1), .val (.int p2), .val (.int p3), .val (.ref a4), .val (.ref a5), .val (.ref a6), .val (.int i6), .val (.int i7)] [(.ref a1), (.ref b2)])) rfl rfl (hb hby d1_146)
      refine Done.step st102 ?_
      show Done p e below s _ _ _ (T102.setTop (mkF m 149 #[.val (.ref a1), .val (.int p2), .val (.int p3), .val (.ref a4), .val (.ref a5), .val (.ref a6), .val (.int i6), .val (.int i7)] [(.ref b1), (.ref b2)]))
      refine Done.step (fun t k => XS.aload X102.here hx rfl (hb hby d1_149) rfl rfl k) ?_
      show Done p e below s _ _ _ (T102.setTop (mkF m 151 #[.val (.ref a1), .val (.int p2), .val (.int p3), .val (.ref a4), .val (.ref a5), .val (.ref a6), .val (.int i6), .val (.int i7)] [(.ref a5), (.ref b1), (.ref b2)]))
      refine Done.step (fun t k => XS.iload X102.here hx rfl (hb hby d1_151) rfl k) ?_
      show Done p e below s _ _ _ (T102.setTop (mkF m 153 #[.val (.ref a1), .val (.int p2), .val (.int p3), .val (.ref a4), .val (.ref a5), .val (.ref a6), .val (.int i6), .val (.int i7)] [(.int i7), (.ref a5), (.ref b1), (.ref b2)]))
      obtain ⟨jj, rfl⟩ : ∃ jj, ii = jj + 1 := ⟨ii - 1, by omega⟩
      have hjk : jj < k := by omega
      have hjn : jj ≤ nn := by omega
      have hs7 := own_idx hi (Nat.lt_of_le_of_lt hii hS)
      have hf7 := own_idx hi (Nat.lt_of_le_of_lt hii hF)
      obtain ⟨y1, hy1⟩ := own_get (xs := S) hs7.2.2
      have hvy1 : fv S (jj + 1) = y1.toInt := by rw [← own_fv hy1, hs7.2.1]
      have hry1 : 1 ≤ y1.toInt ∧ y1.toInt ≤ (vv : Int) + 1 := by have q := hs (jj + 1) (Nat.le_add_left _ _) hii; rw [hvy1] at q; exact ⟨q.1, Int.le_trans q.2 (Int.le_add_of_nonneg_right (by decide))⟩
      refine Done.step (ldI X102 hx hZ e102 A5 (j := i7) (x := (.int y1)) (own_nneg hs7.1) (by rw [List.getElem?_map, hy1]; rfl) (g := (mkF m 153 #[.val (.ref a1), .val (.int p2), .val (.int p3), .val (.ref a4), .val (.ref a5), .val (.ref a6), .val (.int i6), .val (.int i7)] [(.int i7), (.ref a5), (.ref b1), (.ref b2)])) rfl rfl (hb hby d1_153)) ?_
      show Done p e below s _ _ _ (T102.setTop (mkF m 154 #[.val (.ref a1), .val (.int p2), .val (.int p3), .val (.ref a4), .val (.ref a5), .val (.ref a6), .val (.int i6), .val (.int i7)] [(.int y1), (.ref b1), (.ref b2)]))
      refine Done.step (fun t k => Jvm.Free.XT.dup2 X102.here hx rfl (hb hby d1_154) rfl rfl rfl k) ?_
      show Done p e below s _ _ _ (T102.setTop (mkF m 155 #[.val (.ref a1), .val (.int p2), .val (.int p3), .val (.ref a4), .val (.ref a5), .val (.ref a6), .val (.int i6), .val (.int i7)] [(.int y1), (.ref b1), (.int y1), (.ref b1), (.ref b2)]))
      have hiy := own_in hry1 hlen
      obtain ⟨y2, hy2⟩ := own_get (xs := ss) hiy.2.1
      have hgy : y2.toInt = cL (fv F) (fv S) nn (y1.toInt - 1) + cE (fv F) (fv S) (jj + 1) y1.toInt := hsv.at hy2 hiy.2.2.2 hiy.2.2.1
      have hb1 := net_a hii hvy1 hgy
      have hz1 := own_m1 hb1
      refine Done.step (ldI X102 hx hZ e102 Ab (j := y1) (x := (.int y2)) (own_nneg hiy.1) (by rw [List.getElem?_map, hy2]; rfl) (g := (mkF m 155 #[.val (.ref a1), .val (.int p2), .val (.int p3), .val (.ref a4), .val (.ref a5), .val (.ref a6), .val (.int i6), .val (.int i7)] [(.int y1), (.ref b1), (.int y1), (.ref b1), (.ref b2)])) rfl rfl (hb hby d1_155)) ?_
      show Done p e below s _ _ _ (T102.setTop (mkF m 156 #[.val (.ref a1), .val (.int p2), .val (.int p3), .val (.ref a4), .val (.ref a5), .val (.ref a6), .val (.int i6), .val (.int i7)] [(.int y2), (.int y1), (.ref b1), (.ref b2)]))
      refine Done.step (fun t k => XS.iconst X102.here hx rfl (hb hby d1_156) k) ?_
      show Done p e below s _ _ _ (T102.setTop (mkF m 157 #[.val (.ref a1), .val (.int p2), .val (.int p3), .val (.ref a4), .val (.ref a5), .val (.ref a6), .val (.int i6), .val (.int i7)] [(.int (1 : Int32)), (.int y2), (.int y1), (.ref b1), (.ref b2)]))
      refine Done.step (fun t k => XS.isub X102.here hx rfl (hb hby d1_157) rfl k) ?_
      show Done p e below s _ _ _ (T102.setTop (mkF m 158 #[.val (.ref a1), .val (.int p2), .val (.int p3), .val (.ref a4), .val (.ref a5), .val (.ref a6), .val (.int i6), .val (.int i7)] [(.int (y2 - (1 : Int32))), (.int y1), (.ref b1), (.ref b2)]))
      refine Done.step (fun t k => own_dupx2 X102.here hx rfl (hb hby d1_158) rfl k) ?_
      show Done p e below s _ _ _ (T102.setTop (mkF m 159 #[.val (.ref a1), .val (.int p2), .val (.int p3), .val (.ref a4), .val (.ref a5), .val (.ref a6), .val (.int i6), .val (.int i7)] [(.int (y2 - (1 : Int32))), (.int y1), (.ref b1), (.int (y2 - (1 : Int32))), (.ref b2)]))
      obtain ⟨ss1, hss1⟩ : ∃ l, l = ss.set (y1).toNatClampNeg (y2 - (1 : Int32)) := ⟨_, rfl⟩
      have hlss1 := own_len hlen hss1
      have hsv1 := hsv.set hiy.2.2.1 hz1.1 hss1
      obtain ⟨T103, h103, X103, e103, W103, A103, st103⟩ := stoI X102 hx hZ e102 Ab (j := y1) (own_nneg hiy.1) (i := (y1).toNatClampNeg) rfl (by rw [List.length_map]; exact hiy.2.1) (g := (mkF m 159 #[.val (.ref a1), .val (.int p2), .val (.int p3), .val (.ref a4), .val (.ref a5), .val (.ref a6), .val (.int i6), .val (.int i7)] [(.int (y2 - (1 : Int32))), (.int y1), (.ref b1), (.int (y2 - (1 : Int32))), (.ref b2)])) rfl rfl (hb hby d1_159)
      have f104 : Exa Z h103 a1 "com/example/dendrocover/dendrocover/Network" := E1.wr W103
      have f105 : Fld Z h103 a1 "com/example/dendrocover/dendrocover/Network" "roadCount" "I" (.int p3) := F_roadCount.other W103 (Or.inl ne_a1_b1)
      have f106 : Fld Z h103 a1 "com/example/dendrocover/dendrocover/Network" "firstEnd" "[I" (.ref a4) := F_firstEnd.other W103 (Or.inl ne_a1_b1)
      have f107 : Fld Z h103 a1 "com/example/dendrocover/dendrocover/Network" "secondEnd" "[I" (.ref a5) := F_secondEnd.other W103 (Or.inl ne_a1_b1)
      have f108 : Fld Z h103 a1 "com/example/dendrocover/dendrocover/Network" "length" "[I" (.ref a6) := F_length.other W103 (Or.inl ne_a1_b1)
      have f109 : Fld Z h103 a1 "com/example/dendrocover/dendrocover/Network" "incidenceStart" "[I" (.ref b1) := F_incidenceStart.other W103 (Or.inl ne_a1_b1)
      have f110 : Fld Z h103 a1 "com/example/dendrocover/dendrocover/Network" "incident" "[I" (.ref b2) := F_incident.other W103 (Or.inl ne_a1_b1)
      have f111 : Ax Z h103 a4 .int (F.map Value.int) := A4.other W103 ne_a4_b1
      have f112 : Ax Z h103 a5 .int (S.map Value.int) := A5.other W103 ne_a5_b1
      have f113 : Ax Z h103 b1 .int (ss1.map Value.int) := (by rw [hss1, List.map_set]; exact A103)
      have f114 : Ax Z h103 b2 .int (ws.map Value.int) := Ai.other W103 (Ne.symm ne_b1_b2)
      have Z103 : n0 ≤ h103.size := Nat.le_trans Z0 (Keep.of_wr W103).1
      have N103 := Fr.snoc X103 N0 gb
      have K103 : Keep hO h103 [a1] := K0.wr W103 (Or.inr sz_b1)
      refine Done.step st103 ?_
      show Done p e below s _ _ _ (T103.setTop (mkF m 160 #[.val (.ref a1), .val (.int p2), .val (.int p3), .val (.ref a4), .val (.ref a5), .val (.ref a6), .val (.int i6), .val (.int i7)] [(.int (y2 - (1 : Int32))), (.ref b2)]))
      refine Done.step (fun t k => XS.iload X103.here hx rfl (hb hby d1_160) rfl k) ?_
      show Done p e below s _ _ _ (T103.setTop (mkF m 162 #[.val (.ref a1), .val (.int p2), .val (.int p3), .val (.ref a4), .val (.ref a5), .val (.ref a6), .val (.int i6), .val (.int i7)] [(.int i7), (.int (y2 - (1 : Int32))), (.ref b2)]))
      obtain ⟨ws1, hws1⟩ : ∃ l, l = ws.set ((y2 - (1 : Int32))).toNatClampNeg i7 := ⟨_, rfl⟩
      have hlws1 := own_len hwl hws1
      obtain ⟨T115, h115, X115, e115, W115, A115, st115⟩ := stoI X103 hx hZ e103 f114 (j := (y2 - (1 : Int32))) (own_nneg hz1.2.1) (i := ((y2 - (1 : Int32))).toNatClampNeg) rfl (by rw [List.length_map]; exact (own_in0 hz1.2.1 hz1.2.2 hwl).1) (g := (mkF m 162 #[.val (.ref a1), .val (.int p2), .val (.int p3), .val (.ref a4), .val (.ref a5), .val (.ref a6), .val (.int i6), .val (.int i7)] [(.int i7), (.int (y2 - (1 : Int32))), (.ref b2)])) rfl rfl (hb hby d1_162)
      have f116 : Exa Z h115 a1 "com/example/dendrocover/dendrocover/Network" := f104.wr W115
      have f117 : Fld Z h115 a1 "com/example/dendrocover/dendrocover/Network" "roadCount" "I" (.int p3) := f105.other W115 (Or.inl ne_a1_b2)
      have f118 : Fld Z h115 a1 "com/example/dendrocover/dendrocover/Network" "firstEnd" "[I" (.ref a4) := f106.other W115 (Or.inl ne_a1_b2)
      have f119 : Fld Z h115 a1 "com/example/dendrocover/dendrocover/Network" "secondEnd" "[I" (.ref a5) := f107.other W115 (Or.inl ne_a1_b2)
      have f120 : Fld Z h115 a1 "com/example/dendrocover/dendrocover/Network" "length" "[I" (.ref a6) := f108.other W115 (Or.inl ne_a1_b2)
      have f121 : Fld Z h115 a1 "com/example/dendrocover/dendrocover/Network" "incidenceStart" "[I" (.ref b1) := f109.other W115 (Or.inl ne_a1_b2)
      have f122 : Fld Z h115 a1 "com/example/dendrocover/dendrocover/Network" "incident" "[I" (.ref b2) := f110.other W115 (Or.inl ne_a1_b2)
      have f123 : Ax Z h115 a4 .int (F.map Value.int) := f111.other W115 ne_a4_b2
      have f124 : Ax Z h115 a5 .int (S.map Value.int) := f112.other W115 ne_a5_b2
      have f125 : Ax Z h115 b1 .int (ss1.map Value.int) := f113.other W115 ne_b1_b2
      have f126 : Ax Z h115 b2 .int (ws1.map Value.int) := (by rw [hws1, List.map_set]; exact A115)
      have Z115 : n0 ≤ h115.size := Nat.le_trans Z103 (Keep.of_wr W115).1
      have N115 := Fr.snoc X115 N103 gi
      have K115 : Keep hO h115 [a1] := K103.wr W115 (Or.inr sz_b2)
      refine Done.step st115 ?_
      show Done p e below s _ _ _ (T115.setTop (mkF m 163 #[.val (.ref a1), .val (.int p2), .val (.int p3), .val (.ref a4), .val (.ref a5), .val (.ref a6), .val (.int i6), .val (.int i7)] []))
      refine Done.step (fun t k => XS.aloadN X115.here hx rfl (hb hby d1_163) rfl rfl k) ?_
      show Done p e below s _ _ _ (T115.setTop (mkF m 164 #[.val (.ref a1), .val (.int p2), .val (.int p3), .val (.ref a4), .val (.ref a5), .val (.ref a6), .val (.int i6), .val (.int i7)] [(.ref a1)]))
      obtain ⟨T127, X127, e127, st127⟩ := getF X115 hx hZ hown (host := "") (Or.inl (hw _ (List.mem_of_getElem? (i := 23) rfl))) Via.refl e115 f122 (g := (mkF m 164 #[.val (.ref a1), .val (.int p2), .val (.int p3), .val (.ref a4), .val (.ref a5), .val (.ref a6), .val (.int i6), .val (.int i7)] [(.ref a1)])) rfl rfl (hb hby d1_164)
      refine Done.step st127 ?_
      show Done p e below s _ _ _ (T127.setTop (mkF m 167 #[.val (.ref a1), .val (.int p2), .val (.int p3), .val (.ref a4), .val (.ref a5), .val (.ref a6), .val (.int i6), .val (.int i7)] [(.ref b2)]))
      refine Done.step (fun t k => XS.aloadN X127.here hx rfl (hb hby d1_167) rfl rfl k) ?_
      show Done p e below s _ _ _ (T127.setTop (mkF m 168 #[.val (.ref a1), .val (.int p2), .val (.int p3), .val (.ref a4), .val (.ref a5), .val (.ref a6), .val (.int i6), .val (.int i7)] [(.ref a1), (.ref b2)]))
      obtain ⟨T128, X128, e128, st128⟩ := getF X127 hx hZ hown (host := "") (Or.inl (hw _ (List.mem_of_getElem? (i := 21) rfl))) Via.refl e127 f121 (g := (mkF m 168 #[.val (.ref a1), .val (.int p2), .val (.int p3), .val (.ref a4), .val (.ref a5), .val (.ref a6), .val (.int i6), .val (.int i7)] [(.ref a1), (.ref b2)])) rfl rfl (hb hby d1_168)
      refine Done.step st128 ?_
      show Done p e below s _ _ _ (T128.setTop (mkF m 171 #[.val (.ref a1), .val (.int p2), .val (.int p3), .val (.ref a4), .val (.ref a5), .val (.ref a6), .val (.int i6), .val (.int i7)] [(.ref b1), (.ref b2)]))
      refine Done.step (fun t k => XS.aloadN X128.here hx rfl (hb hby d1_171) rfl rfl k) ?_
      show Done p e below s _ _ _ (T128.setTop (mkF m 172 #[.val (.ref a1), .val (.int p2), .val (.int p3), .val (.ref a4), .val (.ref a5), .val (.ref a6), .val (.int i6), .val (.int i7)] [(.ref a4), (.ref b1), (.ref b2)]))
      refine Done.step (fun t k => XS.iload X128.here hx rfl (hb hby d1_172) rfl k) ?_
      show Done p e below s _ _ _ (T128.setTop (mkF m 174 #[.val (.ref a1), .val (.int p2), .val (.int p3), .val (.ref a4), .val (.ref a5), .val (.ref a6), .val (.int i6), .val (.int i7)] [(.int i7), (.ref a4), (.ref b1), (.ref b2)]))
      obtain ⟨x1, hx1⟩ := own_get (xs := F) hf7.2.2
      have hvx1 : fv F (jj + 1) = x1.toInt := by rw [← own_fv hx1, hf7.2.1]
      have hrx1 : 1 ≤ x1.toInt ∧ x1.toInt ≤ (vv : Int) + 1 := by have q := hf (jj + 1) (Nat.le_add_left _ _) hii; rw [hvx1] at q; exact ⟨q.1, Int.le_trans q.2 (Int.le_add_of_nonneg_right (by decide))⟩
      refine Done.step (ldI X128 hx hZ e128 f123 (j := i7) (x := (.int x1)) (own_nneg hf7.1) (by rw [List.getElem?_map, hx1]; rfl) (g := (mkF m 174 #[.val (.ref a1), .val (.int p2), .val (.int p3), .val (.ref a4), .val (.ref a5), .val (.ref a6), .val (.int i6), .val (.int i7)] [(.int i7), (.ref a4), (.ref b1), (.ref b2)])) rfl rfl (hb hby d1_174)) ?_
      show Done p e below s _ _ _ (T128.setTop (mkF m 175 #[.val (.ref a1), .val (.int p2), .val (.int p3), .val (.ref a4), .val (.ref a5), .val (.ref a6), .val (.int i6), .val (.int i7)] [(.int x1), (.ref b1), (.ref b2)]))
      refine Done.step (fun t k => Jvm.Free.XT.dup2 X128.here hx rfl (hb hby d1_175) rfl rfl rfl k) ?_
      show Done p e below s _ _ _ (T128.setTop (mkF m 176 #[.val (.ref a1), .val (.int p2), .val (.int p3), .val (.ref a4), .val (.ref a5), .val (.ref a6), .val (.int i6), .val (.int i7)] [(.int x1), (.ref b1), (.int x1), (.ref b1), (.ref b2)]))
      have hix := own_in hrx1 hlss1
      obtain ⟨x2, hx2⟩ := own_get (xs := ss1) hix.2.1
      have hgx : x2.toInt = if x1.toInt = y1.toInt then y2.toInt - 1 else cL (fv F) (fv S) nn (x1.toInt - 1) + cE (fv F) (fv S) (jj + 1) x1.toInt := hsv1.at hx2 hix.2.2.2 hix.2.2.1
      have hb2 := net_b hii hvx1 hvy1 hgy hgx
      have hz2 := own_m1 hb2.2
      refine Done.step (ldI X128 hx hZ e128 f125 (j := x1) (x := (.int x2)) (own_nneg hix.1) (by rw [List.getElem?_map, hx2]; rfl) (g := (mkF m 176 #[.val (.ref a1), .val (.int p2), .val (.int p3), .val (.ref a4), .val (.ref a5), .val (.ref a6), .val (.int i6), .val (.int i7)] [(.int x1), (.ref b1), (.int x1), (.ref b1), (.ref b2)])) rfl rfl (hb hby d1_176)) ?_
      show Done p e below s _ _ _ (T128.setTop (mkF m 177 #[.val (.ref a1), .val (.int p2), .val (.int p3), .val (.ref a4), .val (.ref a5), .val (.ref a6), .val (.int i6), .val (.int i7)] [(.int x2), (.int x1), (.ref b1), (.ref b2)]))
      refine Done.step (fun t k => XS.iconst X128.here hx rfl (hb hby d1_177) k) ?_
      show Done p e below s _ _ _ (T128.setTop (mkF m 178 #[.val (.ref a1), .val (.int p2), .val (.int p3), .val (.ref a4), .val (.ref a5), .val (.ref a6), .val (.int i6), .val (.int i7)] [(.int (1 : Int32)), (.int x2), (.int x1), (.ref b1), (.ref b2)]))
      refine Done.step (fun t k => XS.isub X128.here hx rfl (hb hby d1_178) rfl k) ?_
      show Done p e below s _ _ _ (T128.setTop (mkF m 179 #[.val (.ref a1), .val (.int p2), .val (.int p3), .val (.ref a4), .val (.ref a5), .val (.ref a6), .val (.int i6), .val (.int i7)] [(.int (x2 - (1 : Int32))), (.int x1), (.ref b1), (.ref b2)]))
      refine Done.step (fun t k => own_dupx2 X128.here hx rfl (hb hby d1_179) rfl k) ?_
      show Done p e below s _ _ _ (T128.setTop (mkF m 180 #[.val (.ref a1), .val (.int p2), .val (.int p3), .val (.ref a4), .val (.ref a5), .val (.ref a6), .val (.int i6), .val (.int i7)] [(.int (x2 - (1 : Int32))), (.int x1), (.ref b1), (.int (x2 - (1 : Int32))), (.ref b2)]))
      obtain ⟨ss2, hss2⟩ : ∃ l, l = ss1.set (x1).toNatClampNeg (x2 - (1 : Int32)) := ⟨_, rfl⟩
      have hlss2 := own_len hlss1 hss2
      have hsv2 := hsv1.set hix.2.2.1 hz2.1 hss2
      obtain ⟨T129, h129, X129, e129, W129, A129, st129⟩ := stoI X128 hx hZ e128 f125 (j := x1) (own_nneg hix.1) (i := (x1).toNatClampNeg) rfl (by rw [List.length_map]; exact hix.2.1) (g := (mkF m 180 #[.val (.ref a1), .val (.int p2), .val (.int p3), .val (.ref a4), .val (.ref a5), .val (.ref a6), .val (.int i6), .val (.int i7)] [(.int (x2 - (1 : Int32))), (.int x1), (.ref b1), (.int (x2 - (1 : Int32))), (.ref b2)])) rfl rfl (hb hby d1_180)
      have f130 : Exa Z h129 a1 "com/example/dendrocover/dendrocover/Network" := f116.wr W129
      have f131 : Fld Z h129 a1 "com/example/dendrocover/dendrocover/Network" "roadCount" "I" (.int p3) := f117.other W129 (Or.inl ne_a1_b1)
      have f132 : Fld Z h129 a1 "com/example/dendrocover/dendrocover/Network" "firstEnd" "[I" (.ref a4) := f118.other W129 (Or.inl ne_a1_b1)
      have f133 : Fld Z h129 a1 "com/example/dendrocover/dendrocover/Network" "secondEnd" "[I" (.ref a5) := f119.other W129 (Or.inl ne_a1_b1)
      have f134 : Fld Z h129 a1 "com/example/dendrocover/dendrocover/Network" "length" "[I" (.ref a6) := f120.other W129 (Or.inl ne_a1_b1)
      have f135 : Fld Z h129 a1 "com/example/dendrocover/dendrocover/Network" "incidenceStart" "[I" (.ref b1) := f121.other W129 (Or.inl ne_a1_b1)
      have f136 : Fld Z h129 a1 "com/example/dendrocover/dendrocover/Network" "incident" "[I" (.ref b2) := f122.other W129 (Or.inl ne_a1_b1)
      have f137 : Ax Z h129 a4 .int (F.map Value.int) := f123.other W129 ne_a4_b1
      have f138 : Ax Z h129 a5 .int (S.map Value.int) := f124.other W129 ne_a5_b1
      have f139 : Ax Z h129 b1 .int (ss2.map Value.int) := (by rw [hss2, List.map_set]; exact A129)
      have f140 : Ax Z h129 b2 .int (ws1.map Value.int) := f126.other W129 (Ne.symm ne_b1_b2)
      have Z129 : n0 ≤ h129.size := Nat.le_trans Z115 (Keep.of_wr W129).1
      have N129 := Fr.snoc X129 N115 gb
      have K129 : Keep hO h129 [a1] := K115.wr W129 (Or.inr sz_b1)
      refine Done.step st129 ?_
      show Done p e below s _ _ _ (T129.setTop (mkF m 181 #[.val (.ref a1), .val (.int p2), .val (.int p3), .val (.ref a4), .val (.ref a5), .val (.ref a6), .val (.int i6), .val (.int i7)] [(.int (x2 - (1 : Int32))), (.ref b2)]))
      refine Done.step (fun t k => XS.iload X129.here hx rfl (hb hby d1_181) rfl k) ?_
      show Done p e below s _ _ _ (T129.setTop (mkF m 183 #[.val (.ref a1), .val (.int p2), .val (.int p3), .val (.ref a4), .val (.ref a5), .val (.ref a6), .val (.int i6), .val (.int i7)] [(.int i7), (.int (x2 - (1 : Int32))), (.ref b2)]))
      obtain ⟨ws2, hws2⟩ : ∃ l, l = ws1.set ((x2 - (1 : Int32))).toNatClampNeg i7 := ⟨_, rfl⟩
      have hlws2 := own_len hlws1 hws2
      obtain ⟨T141, h141, X141, e141, W141, A141, st141⟩ := stoI X129 hx hZ e129 f140 (j := (x2 - (1 : Int32))) (own_nneg hz2.2.1) (i := ((x2 - (1 : Int32))).toNatClampNeg) rfl (by rw [List.length_map]; exact (own_in0 hz2.2.1 hz2.2.2 hlws1).1) (g := (mkF m 183 #[.val (.ref a1), .val (.int p2), .val (.int p3), .val (.ref a4), .val (.ref a5), .val (.ref a6), .val (.int i6), .val (.int i7)] [(.int i7), (.int (x2 - (1 : Int32))), (.ref b2)])) rfl rfl (hb hby d1_183)
      have f142 : Exa Z h141 a1 "com/example/dendrocover/dendrocover/Network" := f130.wr W141
      have f143 : Fld Z h141 a1 "com/example/dendrocover/dendrocover/Network" "roadCount" "I" (.int p3) := f131.other W141 (Or.inl ne_a1_b2)
      have f144 : Fld Z h141 a1 "com/example/dendrocover/dendrocover/Network" "firstEnd" "[I" (.ref a4) := f132.other W141 (Or.inl ne_a1_b2)
      have f145 : Fld Z h141 a1 "com/example/dendrocover/dendrocover/Network" "secondEnd" "[I" (.ref a5) := f133.other W141 (Or.inl ne_a1_b2)
      have f146 : Fld Z h141 a1 "com/example/dendrocover/dendrocover/Network" "length" "[I" (.ref a6) := f134.other W141 (Or.inl ne_a1_b2)
      have f147 : Fld Z h141 a1 "com/example/dendrocover/dendrocover/Network" "incidenceStart" "[I" (.ref b1) := f135.other W141 (Or.inl ne_a1_b2)
      have f148 : Fld Z h141 a1 "com/example/dendrocover/dendrocover/Network" "incident" "[I" (.ref b2) := f136.other W141 (Or.inl ne_a1_b2)
      have f149 : Ax Z h141 a4 .int (F.map Value.int) := f137.other W141 ne_a4_b2
      have f150 : Ax Z h141 a5 .int (S.map Value.int) := f138.other W141 ne_a5_b2
      have f151 : Ax Z h141 b1 .int (ss2.map Value.int) := f139.other W141 ne_b1_b2
      have f152 : Ax Z h141 b2 .int (ws2.map Value.int) := (by rw [hws2, List.map_set]; exact A141)
      have Z141 : n0 ≤ h141.size := Nat.le_trans Z129 (Keep.of_wr W141).1
      have N141 := Fr.snoc X141 N129 gi
      have K141 : Keep hO h141 [a1] := K129.wr W141 (Or.inr sz_b2)
      refine Done.step st141 ?_
      show Done p e below s _ _ _ (T141.setTop (mkF m 184 #[.val (.ref a1), .val (.int p2), .val (.int p3), .val (.ref a4), .val (.ref a5), .val (.ref a6), .val (.int i6), .val (.int i7)] []))
      refine Done.step (fun t k => XS.iinc X141.here hx rfl (hb hby d1_184) rfl (l' := #[.val (.ref a1), .val (.int p2), .val (.int p3), .val (.ref a4), .val (.ref a5), .val (.ref a6), .val (.int i6), .val (.int (i7 + (-1 : Int32)))]) rfl k) ?_
      show Done p e below s _ _ _ (T141.setTop (mkF m 187 #[.val (.ref a1), .val (.int p2), .val (.int p3), .val (.ref a4), .val (.ref a5), .val (.ref a6), .val (.int i6), .val (.int (i7 + (-1 : Int32)))] []))
      refine Done.step (fun t k => XS.goto X141.here hx rfl (pc0 := 187) (pc' := 135) rfl (hb hby d1_187) (by decide) (by decide) k) ?_
      show Done p e below s _ _ _ (T141.setTop (mkF m 135 #[.val (.ref a1), .val (.int p2), .val (.int p3), .val (.ref a4), .val (.ref a5), .val (.ref a6), .val (.int i6), .val (.int (i7 + (-1 : Int32)))] []))
      have hsv3 : SV ss2 (fun j => cL (fv F) (fv S) nn (j - 1) + cE (fv F) (fv S) jj j) := hsv2.same (fun j hj => net_c hvx1 hvy1 hgy hb2.1 j)
      exact ih T141 _ h141 ss2 ws2 (i7 + (-1 : Int32)) jj X141 N141 Z141 e141 K141 f142 f143 f144 f145 f146 f147 f148 f149 f150 f151 f152 hlss2 hlws2 hjk (own_dec hi) hjn hsv3
theorem own_rep {Z : State} {h : Heap} {a : Addr} {n : Nat} (A : Ax Z h a .int (List.replicate n (.int (0 : Int32)))) : Ax Z h a .int ((List.replicate n (0 : Int32)).map Value.int) := by rw [List.map_replicate]; exact A
theorem d1_88 : decode prog_20_method_1_code 88 = .ok (.iload 7, 2) := by decide +kernel
theorem d1_90 : decode prog_20_method_1_code 90 = .ok (.iload_n 1, 1) := by decide +kernel
theorem d1_91 : decode prog_20_method_1_code 91 = .ok (.iconst 1, 1) := by decide +kernel
theorem d1_92 : decode prog_20_method_1_code 92 = .ok (.iadd, 1) := by decide +kernel
theorem d1_93 : decode prog_20_method_1_code 93 = .ok (.if_icmp .gt 30, 3) := by decide +kernel
theorem d1_96 : decode prog_20_method_1_code 96 = .ok (.iload 6, 2) := by decide +kernel
theorem d1_98 : decode prog_20_method_1_code 98 = .ok (.aload_n 0, 1) := by decide +kernel
theorem d1_99 : decode prog_20_method_1_code 99 = .ok (.getfield 26, 3) := by decide +kernel
theorem d1_102 : decode prog_20_method_1_code 102 = .ok (.iload 7, 2) := by decide +kernel
theorem d1_104 : decode prog_20_method_1_code 104 = .ok (.iaload, 1) := by decide +kernel
theorem d1_105 : decode prog_20_method_1_code 105 = .ok (.iadd, 1) := by decide +kernel
theorem d1_106 : decode prog_20_method_1_code 106 = .ok (.istore 6, 2) := by decide +kernel
theorem d1_108 : decode prog_20_method_1_code 108 = .ok (.aload_n 0, 1) := by decide +kernel
theorem d1_109 : decode prog_20_method_1_code 109 = .ok (.getfield 26, 3) := by decide +kernel
theorem d1_112 : decode prog_20_method_1_code 112 = .ok (.iload 7, 2) := by decide +kernel
theorem d1_114 : decode prog_20_method_1_code 114 = .ok (.iload 6, 2) := by decide +kernel
theorem d1_116 : decode prog_20_method_1_code 116 = .ok (.iastore, 1) := by decide +kernel
theorem d1_117 : decode prog_20_method_1_code 117 = .ok (.iinc 7 1, 3) := by decide +kernel
theorem d1_120 : decode prog_20_method_1_code 120 = .ok (.goto (-32), 3) := by decide +kernel
theorem d1_123 : decode prog_20_method_1_code 123 = .ok (.aload_n 0, 1) := by decide +kernel
theorem d1_124 : decode prog_20_method_1_code 124 = .ok (.iconst 2, 1) := by decide +kernel
theorem d1_125 : decode prog_20_method_1_code 125 = .ok (.iload_n 2, 1) := by decide +kernel
theorem d1_126 : decode prog_20_method_1_code 126 = .ok (.imul, 1) := by decide +kernel
theorem d1_127 : decode prog_20_method_1_code 127 = .ok (.newarray .int, 2) := by decide +kernel
theorem d1_129 : decode prog_20_method_1_code 129 = .ok (.putfield 29, 3) := by decide +kernel
theorem d1_132 : decode prog_20_method_1_code 132 = .ok (.iload_n 2, 1) := by decide +kernel
theorem d1_133 : decode prog_20_method_1_code 133 = .ok (.istore 7, 2) := by decide +kernel
set_option maxRecDepth 65536 in
set_option maxHeartbeats 40000000 in
theorem lp88 {p : Program} {l : Launch} {e : Env} {s : State} {m : MethodId} {args : Array Value} {below : List Frame} {meth : Method} {c : Code} {Z : State} {a0 : Array Value} {n0 : Nat} {hO : Heap} (a1 : Addr) (p2 p3 : Int32) (a4 a5 a6 : Addr) (F S : List Int32) (nn vv : Nat) (b1 : Addr)
    (hx : p.tables.exec = Jvm.exec) (hZ : Z.Warmed39 s.vm) (hw : ∀ d ∈ tables_1, d.before a0 Z = true) (hby : c.code = prog_20_method_1_code) (hml : c.maxLocals = 8) (hown : s.vm.findClass "com/example/dendrocover/dendrocover/Network" = some m.cls) (hlk : meth.locks = false) (hret : meth.sig.returnType = (none : Option FieldType)) (hnm : meth.name = "<init>") (g1 : n0 ≤ a1) (hv : p2.toInt = vv) (hv2 : vv ≤ 256) (hn : p3.toInt = nn) (hn2 : nn ≤ 2) (hF : nn < F.length) (hS : nn < S.length) (hf : ∀ i, 1 ≤ i → i ≤ nn → 1 ≤ fv F i ∧ fv F i ≤ (vv : Int)) (hs : ∀ i, 1 ≤ i → i ≤ nn → 1 ≤ fv S i ∧ fv S i ≤ (vv : Int)) (gb : n0 ≤ b1) (sz_b1 : hO.size ≤ b1) (ne_a1_a4 : a1 ≠ a4) (ne_a1_a5 : a1 ≠ a5) (ne_a1_b1 : a1 ≠ b1) (ne_a4_b1 : a4 ≠ b1) (ne_a5_b1 : a5 ≠ b1) :
    ∀ (k : Nat) (T : State) (locs : List Loc) (h0 : Heap) (ss : List Int32) (i6 : Int32) (i7 : Int32) (tt : Nat) (X0 : Stand p l e ({ frames := 1, cells := 2, slots := 262, locals := 12 } : Room) s m args below meth c T locs 1 258) (N0 : Fr n0 locs) (Z0 : n0 ≤ h0.size) (e0 : T.heap = h0) (K0 : Keep hO h0 [a1]) (E1 : Exa Z h0 a1 "com/example/dendrocover/dendrocover/Network") (F_roadCount : Fld Z h0 a1 "com/example/dendrocover/dendrocover/Network" "roadCount" "I" (.int p3)) (F_firstEnd : Fld Z h0 a1 "com/example/dendrocover/dendrocover/Network" "firstEnd" "[I" (.ref a4)) (F_secondEnd : Fld Z h0 a1 "com/example/dendrocover/dendrocover/Network" "secondEnd" "[I" (.ref a5)) (F_length : Fld Z h0 a1 "com/example/dendrocover/dendrocover/Network" "length" "[I" (.ref a6)) (F_incidenceStart : Fld Z h0 a1 "com/example/dendrocover/dendrocover/Network" "incidenceStart" "[I" (.ref b1)) (F_incident : Fld Z h0 a1 "com/example/dendrocover/dendrocover/Network" "incident" "[I" .null) (A4 : Ax Z h0 a4 .int (F.map Value.int)) (A5 : Ax Z h0 a5 .int (S.map Value.int)) (Ab : Ax Z h0 b1 .int (ss.map Value.int)) (hlen : ss.length = vv + 2) (hk : vv + 2 - tt < k) (hi : i7.toInt = (tt : Int)) (ht1 : 1 ≤ tt) (ht2 : tt ≤ vv + 2) (hsum : i6.toInt = cL (fv F) (fv S) nn ((tt : Int) - 1)) (hsv : SV ss (fun j => if j < (tt : Int) then cL (fv F) (fv S) nn j else cE (fv F) (fv S) nn j)), Done p e below s (fun v h L => v = none ∧ Fr n0 L ∧ Keep hO h [a1] ∧ Exa Z h a1 "com/example/dendrocover/dendrocover/Network" ∧ Fld Z h a1 "com/example/dendrocover/dendrocover/Network" "roadCount" "I" (.int p3) ∧ Fld Z h a1 "com/example/dendrocover/dendrocover/Network" "firstEnd" "[I" (.ref a4) ∧ Fld Z h a1 "com/example/dendrocover/dendrocover/Network" "secondEnd" "[I" (.ref a5) ∧ Fld Z h a1 "com/example/dendrocover/dendrocover/Network" "length" "[I" (.ref a6)) ({ frames := 1, cells := 2, slots := 262, locals := 12 } : Room).cells ({ frames := 1, cells := 2, slots := 262, locals := 12 } : Room).slots (T.setTop (mkF m 88 #[.val (.ref a1), .val (.int p2), .val (.int p3), .val (.ref a4), .val (.ref a5), .val (.ref a6), .val (.int i6), .val (.int i7)] [])) := by
  intro k
  induction k with
  | zero => intro T locs h0 ss i6 i7 tt X0 N0 Z0 e0 K0 E1 F_roadCount F_firstEnd F_secondEnd F_length F_incidenceStart F_incident A4 A5 Ab hlen hk hi ht1 ht2 hsum hsv; exact absurd hk (Nat.not_lt_zero _)
  | succ k ih =>
    intro T locs h0 ss i6 i7 tt X0 N0 Z0 e0 K0 E1 F_roadCount F_firstEnd F_secondEnd F_length F_incidenceStart F_incident A4 A5 Ab hlen hk hi ht1 ht2 hsum hsv
    show Done p e below s _ _ _ (T.setTop (mkF m 88 #[.val (.ref a1), .val (.int p2), .val (.int p3), .val (.ref a4), .val (.ref a5), .val (.ref a6), .val (.int i6), .val (.int i7)] []))
    have hp1 : (p2 + (1 : Int32)).toInt = vv + 1 := by rw [own_plus own_one (by omega) (by omega), hv]
    refine Done.step (fun t k => XS.iload X0.here hx rfl (hb hby d1_88) rfl k) ?_
    show Done p e below s _ _ _ (T.setTop (mkF m 90 #[.val (.ref a1), .val (.int p2), .val (.int p3), .val (.ref a4), .val (.ref a5), .val (.ref a6), .val (.int i6), .val (.int i7)] [(.int i7)]))
    refine Done.step (fun t k => XS.iloadN X0.here hx rfl (hb hby d1_90) rfl k) ?_
    show Done p e below s _ _ _ (T.setTop (mkF m 91 #[.val (.ref a1), .val (.int p2), .val (.int p3), .val (.ref a4), .val (.ref a5), .val (.ref a6), .val (.int i6), .val (.int i7)] [(.int p2), (.int i7)]))
    refine Done.step (fun t k => XS.iconst X0.here hx rfl (hb hby d1_91) k) ?_
    show Done p e below s _ _ _ (T.setTop (mkF m 92 #[.val (.ref a1), .val (.int p2), .val (.int p3), .val (.ref a4), .val (.ref a5), .val (.ref a6), .val (.int i6), .val (.int i7)] [(.int (1 : Int32)), (.int p2), (.int i7)]))
    refine Done.step (fun t k => XS.iadd X0.here hx rfl (hb hby d1_92) rfl k) ?_
    show Done p e below s _ _ _ (T.setTop (mkF m 93 #[.val (.ref a1), .val (.int p2), .val (.int p3), .val (.ref a4), .val (.ref a5), .val (.ref a6), .val (.int i6), .val (.int i7)] [(.int (p2 + (1 : Int32))), (.int i7)]))
    by_cases c1 : (p2 + (1 : Int32)) < i7
    · refine Done.step (fun t k => XS.icmpYes X0.here hx rfl (pc0 := 93) (pc' := 123) rfl (hb hby d1_93) rfl (tlt c1).2.2.1 (by decide) (by decide) k) ?_
      show Done p e below s _ _ _ (T.setTop (mkF m 123 #[.val (.ref a1), .val (.int p2), .val (.int p3), .val (.ref a4), .val (.ref a5), .val (.ref a6), .val (.int i6), .val (.int i7)] []))
      refine Done.step (fun t k => XS.aloadN X0.here hx rfl (hb hby d1_123) rfl rfl k) ?_
      show Done p e below s _ _ _ (T.setTop (mkF m 124 #[.val (.ref a1), .val (.int p2), .val (.int p3), .val (.ref a4), .val (.ref a5), .val (.ref a6), .val (.int i6), .val (.int i7)] [(.ref a1)]))
      refine Done.step (fun t k => XS.iconst X0.here hx rfl (hb hby d1_124) k) ?_
      show Done p e below s _ _ _ (T.setTop (mkF m 125 #[.val (.ref a1), .val (.int p2), .val (.int p3), .val (.ref a4), .val (.ref a5), .val (.ref a6), .val (.int i6), .val (.int i7)] [(.int (2 : Int32)), (.ref a1)]))
      refine Done.step (fun t k => XS.iloadN X0.here hx rfl (hb hby d1_125) rfl k) ?_
      show Done p e below s _ _ _ (T.setTop (mkF m 126 #[.val (.ref a1), .val (.int p2), .val (.int p3), .val (.ref a4), .val (.ref a5), .val (.ref a6), .val (.int i6), .val (.int i7)] [(.int p3), (.int (2 : Int32)), (.ref a1)]))
      refine Done.step (fun t k => XS.imul X0.here hx rfl (hb hby d1_126) rfl k) ?_
      show Done p e below s _ _ _ (T.setTop (mkF m 127 #[.val (.ref a1), .val (.int p2), .val (.int p3), .val (.ref a4), .val (.ref a5), .val (.ref a6), .val (.int i6), .val (.int i7)] [(.int ((2 : Int32) * p3)), (.ref a1)]))
      have hgt : (vv : Int) + 1 < i7.toInt := by have := Int32.lt_iff_toInt_lt.mp c1; omega
      obtain rfl : tt = vv + 2 := by omega
      have hmul : ((2 : Int32) * p3).toInt = 2 * nn := by have a := c_imul (2 : Int32) p3; have r := rng32 ((2 : Int32) * p3); rw [hn, show (2 : Int32).toInt = 2 from rfl] at a; omega
      have hmc := own_clamp (x := (2 : Int32) * p3) (by omega)
      obtain ⟨T101, h101, k101, X101, e101, E101, A101, B101, st101⟩ := newPE X0 hx hZ (hw _ (List.mem_of_getElem? (i := 0) rfl)) e0 (g := (mkF m 127 #[.val (.ref a1), .val (.int p2), .val (.int p3), .val (.ref a4), .val (.ref a5), .val (.ref a6), .val (.int i6), .val (.int i7)] [(.int ((2 : Int32) * p3)), (.ref a1)])) rfl (hb hby d1_127) rfl (own_nneg (by omega)) (cap := 4) (by omega) (by decide) (by decide) (by decide) (ad := "[I") (by decide)
      obtain ⟨b101, gq101⟩ : ∃ z, z = h0.size := ⟨_, rfl⟩
      rw [← gq101] at A101 B101 st101
      have ne102 : a1 ≠ b101 := Nat.ne_of_lt (Nat.lt_of_lt_of_le E1.lt (Nat.le_of_eq gq101.symm))
      have ne103 : a4 ≠ b101 := Nat.ne_of_lt (Nat.lt_of_lt_of_le A4.lt (Nat.le_of_eq gq101.symm))
      have ne104 : a5 ≠ b101 := Nat.ne_of_lt (Nat.lt_of_lt_of_le A5.lt (Nat.le_of_eq gq101.symm))
      have ne105 : b1 ≠ b101 := Nat.ne_of_lt (Nat.lt_of_lt_of_le Ab.lt (Nat.le_of_eq gq101.symm))
      have f106 : Exa Z h101 a1 "com/example/dendrocover/dendrocover/Network" := E1.ext E101
      have f107 : Fld Z h101 a1 "com/example/dendrocover/dendrocover/Network" "roadCount" "I" (.int p3) := F_roadCount.ext E101
      have f108 : Fld Z h101 a1 "com/example/dendrocover/dendrocover/Network" "firstEnd" "[I" (.ref a4) := F_firstEnd.ext E101
      have f109 : Fld Z h101 a1 "com/example/dendrocover/dendrocover/Network" "secondEnd" "[I" (.ref a5) := F_secondEnd.ext E101
      have f110 : Fld Z h101 a1 "com/example/dendrocover/dendrocover/Network" "length" "[I" (.ref a6) := F_length.ext E101
      have f111 : Fld Z h101 a1 "com/example/dendrocover/dendrocover/Network" "incidenceStart" "[I" (.ref b1) := F_incidenceStart.ext E101
      have f112 : Fld Z h101 a1 "com/example/dendrocover/dendrocover/Network" "incident" "[I" .null := F_incident.ext E101
      have f113 : Ax Z h101 a4 .int (F.map Value.int) := A4.ext E101
      have f114 : Ax Z h101 a5 .int (S.map Value.int) := A5.ext E101
      have f115 : Ax Z h101 b1 .int (ss.map Value.int) := Ab.ext E101
      have g_b101 : n0 ≤ b101 := Nat.le_trans Z0 (Nat.le_of_eq gq101.symm)
      have sz_b101 : hO.size ≤ b101 := Nat.le_trans K0.1 (Nat.le_of_eq gq101.symm)
      have Z101 : n0 ≤ h101.size := Nat.le_trans Z0 E101.1
      have K101 : Keep hO h101 [a1] := K0.ext E101
      have f116 : Ax Z h101 b101 .int (List.replicate (2 * nn) (.int (0 : Int32))) := Ax.new (ty := .int) (i := (2 * nn)) A101 (by omega)
      refine Done.step st101 ?_
      show Done p e below s _ _ _ (T101.setTop (mkF m 129 #[.val (.ref a1), .val (.int p2), .val (.int p3), .val (.ref a4), .val (.ref a5), .val (.ref a6), .val (.int i6), .val (.int i7)] [(.ref b101), (.ref a1)]))
      obtain ⟨T117, h117, X117, e117, W117, st117⟩ := putF X101 hx hZ hown (host := "") (Or.inl (hw _ (List.mem_of_getElem? (i := 23) rfl))) Via.refl e101 f112 f106 (Or.inr ⟨(hw _ (List.mem_of_getElem? (i := 24) rfl)), rfl, hnm⟩) (hw _ (List.mem_of_getElem? (i := 3) rfl)) (ty := (.array .int)) (by decide) rfl rfl (g := (mkF m 129 #[.val (.ref a1), .val (.int p2), .val (.int p3), .val (.ref a4), .val (.ref a5), .val (.ref a6), .val (.int i6), .val (.int i7)] [(.ref b101), (.ref a1)])) rfl rfl (hb hby d1_129)
      have f118 : Exa Z h117 a1 "com/example/dendrocover/dendrocover/Network" := f106.wr W117
      have f119 : Fld Z h117 a1 "com/example/dendrocover/dendrocover/Network" "roadCount" "I" (.int p3) := f107.other W117 (Or.inr (slot_ne (Or.inr (hw _ (List.mem_of_getElem? (i := 14) rfl))) (Or.inr (hw _ (List.mem_of_getElem? (i := 24) rfl))) (by decide) (t := .int) (t' := (.array .int)) (by decide) (by decide)))
      have f120 : Fld Z h117 a1 "com/example/dendrocover/dendrocover/Network" "firstEnd" "[I" (.ref a4) := f108.other W117 (Or.inr (slot_ne (Or.inr (hw _ (List.mem_of_getElem? (i := 16) rfl))) (Or.inr (hw _ (List.mem_of_getElem? (i := 24) rfl))) (by decide) (t := (.array .int)) (t' := (.array .int)) (by decide) (by decide)))
      have f121 : Fld Z h117 a1 "com/example/dendrocover/dendrocover/Network" "secondEnd" "[I" (.ref a5) := f109.other W117 (Or.inr (slot_ne (Or.inr (hw _ (List.mem_of_getElem? (i := 18) rfl))) (Or.inr (hw _ (List.mem_of_getElem? (i := 24) rfl))) (by decide) (t := (.array .int)) (t' := (.array .int)) (by decide) (by decide)))
      have f122 : Fld Z h117 a1 "com/example/dendrocover/dendrocover/Network" "length" "[I" (.ref a6) := f110.other W117 (Or.inr (slot_ne (Or.inr (hw _ (List.mem_of_getElem? (i := 20) rfl))) (Or.inr (hw _ (List.mem_of_getElem? (i := 24) rfl))) (by decide) (t := (.array .int)) (t' := (.array .int)) (by decide) (by decide)))
      have f123 : Fld Z h117 a1 "com/example/dendrocover/dendrocover/Network" "incidenceStart" "[I" (.ref b1) := f111.other W117 (Or.inr (slot_ne (Or.inr (hw _ (List.mem_of_getElem? (i := 22) rfl))) (Or.inr (hw _ (List.mem_of_getElem? (i := 24) rfl))) (by decide) (t := (.array .int)) (t' := (.array .int)) (by decide) (by decide)))
      have f124 : Fld Z h117 a1 "com/example/dendrocover/dendrocover/Network" "incident" "[I" (.ref b101) := f112.same W117
      have f125 : Ax Z h117 a4 .int (F.map Value.int) := f113.other W117 (Ne.symm ne_a1_a4)
      have f126 : Ax Z h117 a5 .int (S.map Value.int) := f114.other W117 (Ne.symm ne_a1_a5)
      have f127 : Ax Z h117 b1 .int (ss.map Value.int) := f115.other W117 (Ne.symm ne_a1_b1)
      have f128 : Exa Z h117 b101 "[I" := B101.wr W117
      have f129 : Ax Z h117 b101 .int (List.replicate (2 * nn) (.int (0 : Int32))) := f116.other W117 (Ne.symm ne102)
      have Z117 : n0 ≤ h117.size := Nat.le_trans Z101 (Keep.of_wr W117).1
      have N117 := Fr.snoc X117 N0 g1
      have K117 : Keep hO h117 [a1] := K101.wr W117 (Or.inl (by simp))
      refine Done.step st117 ?_
      show Done p e below s _ _ _ (T117.setTop (mkF m 132 #[.val (.ref a1), .val (.int p2), .val (.int p3), .val (.ref a4), .val (.ref a5), .val (.ref a6), .val (.int i6), .val (.int i7)] []))
      refine Done.step (fun t k => XS.iloadN X117.here hx rfl (hb hby d1_132) rfl k) ?_
      show Done p e below s _ _ _ (T117.setTop (mkF m 133 #[.val (.ref a1), .val (.int p2), .val (.int p3), .val (.ref a4), .val (.ref a5), .val (.ref a6), .val (.int i6), .val (.int i7)] [(.int p3)]))
      refine Done.step (fun t k => XS.istore X117.here hx rfl (hb hby d1_133) rfl (l' := #[.val (.ref a1), .val (.int p2), .val (.int p3), .val (.ref a4), .val (.ref a5), .val (.ref a6), .val (.int i6), .val (.int p3)]) rfl k) ?_
      show Done p e below s _ _ _ (T117.setTop (mkF m 135 #[.val (.ref a1), .val (.int p2), .val (.int p3), .val (.ref a4), .val (.ref a5), .val (.ref a6), .val (.int i6), .val (.int p3)] []))
      have hsv3 : SV ss (fun j => cL (fv F) (fv S) nn (j - 1) + cE (fv F) (fv S) nn j) := fun j y hy hj => by
        have q := hsv j y hy hj
        dsimp only at q ⊢
        have hjl : j < ss.length := (List.getElem?_eq_some_iff.mp hy).1
        rw [if_pos (by omega)] at q
        rw [q]; exact cL_step (fv F) (fv S) nn (j : Int)
      exact lp135 a1 p2 p3 a4 a5 a6 F S nn vv b1 b101 i6 hx hZ hw hby hml hown hlk hret hnm g1 hv hv2 hn hn2 hF hS hf hs gb g_b101 sz_b1 sz_b101 ne_a1_a4 ne_a1_a5 ne_a1_b1 ne_a4_b1 ne_a5_b1 ne102 ne103 ne104 ne105 (nn + 1)  T117 _ h117 ss (List.replicate (2 * nn) (0 : Int32)) p3 nn X117 N117 Z117 e117 K117 f118 f119 f120 f121 f122 f123 f124 f125 f126 f127 (own_rep f129) hlen (List.length_replicate) (Nat.lt_succ_self _) hn (Nat.le_refl _) hsv3
    · refine Done.step (fun t k => XS.icmpNo X0.here hx rfl (hb hby d1_93) rfl (flt c1).2.2.1 k) ?_
      show Done p e below s _ _ _ (T.setTop (mkF m 96 #[.val (.ref a1), .val (.int p2), .val (.int p3), .val (.ref a4), .val (.ref a5), .val (.ref a6), .val (.int i6), .val (.int i7)] []))
      have hle : i7.toInt ≤ vv + 1 := by have := Int.not_lt.mp (fun q => c1 (Int32.lt_iff_toInt_lt.mpr q)); omega
      refine Done.step (fun t k => XS.iload X0.here hx rfl (hb hby d1_96) rfl k) ?_
      show Done p e below s _ _ _ (T.setTop (mkF m 98 #[.val (.ref a1), .val (.int p2), .val (.int p3), .val (.ref a4), .val (.ref a5), .val (.ref a6), .val (.int i6), .val (.int i7)] [(.int i6)]))
      refine Done.step (fun t k => XS.aloadN X0.here hx rfl (hb hby d1_98) rfl rfl k) ?_
      show Done p e below s _ _ _ (T.setTop (mkF m 99 #[.val (.ref a1), .val (.int p2), .val (.int p3), .val (.ref a4), .val (.ref a5), .val (.ref a6), .val (.int i6), .val (.int i7)] [(.ref a1), (.int i6)]))
      obtain ⟨T130, X130, e130, st130⟩ := getF X0 hx hZ hown (host := "") (Or.inl (hw _ (List.mem_of_getElem? (i := 21) rfl))) Via.refl e0 F_incidenceStart (g := (mkF m 99 #[.val (.ref a1), .val (.int p2), .val (.int p3), .val (.ref a4), .val (.ref a5), .val (.ref a6), .val (.int i6), .val (.int i7)] [(.ref a1), (.int i6)])) rfl rfl (hb hby d1_99)
      refine Done.step st130 ?_
      show Done p e below s _ _ _ (T130.setTop (mkF m 102 #[.val (.ref a1), .val (.int p2), .val (.int p3), .val (.ref a4), .val (.ref a5), .val (.ref a6), .val (.int i6), .val (.int i7)] [(.ref b1), (.int i6)]))
      refine Done.step (fun t k => XS.iload X130.here hx rfl (hb hby d1_102) rfl k) ?_
      show Done p e below s _ _ _ (T130.setTop (mkF m 104 #[.val (.ref a1), .val (.int p2), .val (.int p3), .val (.ref a4), .val (.ref a5), .val (.ref a6), .val (.int i6), .val (.int i7)] [(.int i7), (.ref b1), (.int i6)]))
      have hiy := own_in (x := i7) ⟨by omega, hle⟩ hlen
      obtain ⟨y2, hy2⟩ := own_get (xs := ss) hiy.2.1
      have hgy : y2.toInt = cE (fv F) (fv S) nn (tt : Int) := by have q := hsv.at hy2 hiy.2.2.2 hiy.2.2.1; (try dsimp only at q); rw [hi, if_neg (Int.lt_irrefl _)] at q; exact q
      have hz := net_g hsum hgy (by omega)
      refine Done.step (ldI X130 hx hZ e130 Ab (j := i7) (x := (.int y2)) (own_nneg hiy.1) (by rw [List.getElem?_map, hy2]; rfl) (g := (mkF m 104 #[.val (.ref a1), .val (.int p2), .val (.int p3), .val (.ref a4), .val (.ref a5), .val (.ref a6), .val (.int i6), .val (.int i7)] [(.int i7), (.ref b1), (.int i6)])) rfl rfl (hb hby d1_104)) ?_
      show Done p e below s _ _ _ (T130.setTop (mkF m 105 #[.val (.ref a1), .val (.int p2), .val (.int p3), .val (.ref a4), .val (.ref a5), .val (.ref a6), .val (.int i6), .val (.int i7)] [(.int y2), (.int i6)]))
      refine Done.step (fun t k => XS.iadd X130.here hx rfl (hb hby d1_105) rfl k) ?_
      show Done p e below s _ _ _ (T130.setTop (mkF m 106 #[.val (.ref a1), .val (.int p2), .val (.int p3), .val (.ref a4), .val (.ref a5), .val (.ref a6), .val (.int i6), .val (.int i7)] [(.int (i6 + y2))]))
      refine Done.step (fun t k => XS.istore X130.here hx rfl (hb hby d1_106) rfl (l' := #[.val (.ref a1), .val (.int p2), .val (.int p3), .val (.ref a4), .val (.ref a5), .val (.ref a6), .val (.int (i6 + y2)), .val (.int i7)]) rfl k) ?_
      show Done p e below s _ _ _ (T130.setTop (mkF m 108 #[.val (.ref a1), .val (.int p2), .val (.int p3), .val (.ref a4), .val (.ref a5), .val (.ref a6), .val (.int (i6 + y2)), .val (.int i7)] []))
      refine Done.step (fun t k => XS.aloadN X130.here hx rfl (hb hby d1_108) rfl rfl k) ?_
      show Done p e below s _ _ _ (T130.setTop (mkF m 109 #[.val (.ref a1), .val (.int p2), .val (.int p3), .val (.ref a4), .val (.ref a5), .val (.ref a6), .val (.int (i6 + y2)), .val (.int i7)] [(.ref a1)]))
      obtain ⟨T131, X131, e131, st131⟩ := getF X130 hx hZ hown (host := "") (Or.inl (hw _ (List.mem_of_getElem? (i := 21) rfl))) Via.refl e130 F_incidenceStart (g := (mkF m 109 #[.val (.ref a1), .val (.int p2), .val (.int p3), .val (.ref a4), .val (.ref a5), .val (.ref a6), .val (.int (i6 + y2)), .val (.int i7)] [(.ref a1)])) rfl rfl (hb hby d1_109)
      refine Done.step st131 ?_
      show Done p e below s _ _ _ (T131.setTop (mkF m 112 #[.val (.ref a1), .val (.int p2), .val (.int p3), .val (.ref a4), .val (.ref a5), .val (.ref a6), .val (.int (i6 + y2)), .val (.int i7)] [(.ref b1)]))
      refine Done.step (fun t k => XS.iload X131.here hx rfl (hb hby d1_112) rfl k) ?_
      show Done p e below s _ _ _ (T131.setTop (mkF m 114 #[.val (.ref a1), .val (.int p2), .val (.int p3), .val (.ref a4), .val (.ref a5), .val (.ref a6), .val (.int (i6 + y2)), .val (.int i7)] [(.int i7), (.ref b1)]))
      refine Done.step (fun t k => XS.iload X131.here hx rfl (hb hby d1_114) rfl k) ?_
      show Done p e below s _ _ _ (T131.setTop (mkF m 116 #[.val (.ref a1), .val (.int p2), .val (.int p3), .val (.ref a4), .val (.ref a5), .val (.ref a6), .val (.int (i6 + y2)), .val (.int i7)] [(.int (i6 + y2)), (.int i7), (.ref b1)]))
      obtain ⟨ss1, hss1⟩ : ∃ l, l = ss.set (i7).toNatClampNeg (i6 + y2) := ⟨_, rfl⟩
      have hlss1 := own_len hlen hss1
      have hsv1 := hsv.set (hiy.2.2.1.trans hi) hz hss1
      have hi7 := own_inc hi (by omega)
      have ht3 : vv + 2 - (tt + 1) < k := by omega
      have ht4 : tt + 1 ≤ vv + 2 := by omega
      obtain ⟨T132, h132, X132, e132, W132, A132, st132⟩ := stoI X131 hx hZ e131 Ab (j := i7) (own_nneg hiy.1) (i := (i7).toNatClampNeg) rfl (by rw [List.length_map]; exact hiy.2.1) (g := (mkF m 116 #[.val (.ref a1), .val (.int p2), .val (.int p3), .val (.ref a4), .val (.ref a5), .val (.ref a6), .val (.int (i6 + y2)), .val (.int i7)] [(.int (i6 + y2)), (.int i7), (.ref b1)])) rfl rfl (hb hby d1_116)
      have f133 : Exa Z h132 a1 "com/example/dendrocover/dendrocover/Network" := E1.wr W132
      have f134 : Fld Z h132 a1 "com/example/dendrocover/dendrocover/Network" "roadCount" "I" (.int p3) := F_roadCount.other W132 (Or.inl ne_a1_b1)
      have f135 : Fld Z h132 a1 "com/example/dendrocover/dendrocover/Network" "firstEnd" "[I" (.ref a4) := F_firstEnd.other W132 (Or.inl ne_a1_b1)
      have f136 : Fld Z h132 a1 "com/example/dendrocover/dendrocover/Network" "secondEnd" "[I" (.ref a5) := F_secondEnd.other W132 (Or.inl ne_a1_b1)
      have f137 : Fld Z h132 a1 "com/example/dendrocover/dendrocover/Network" "length" "[I" (.ref a6) := F_length.other W132 (Or.inl ne_a1_b1)
      have f138 : Fld Z h132 a1 "com/example/dendrocover/dendrocover/Network" "incidenceStart" "[I" (.ref b1) := F_incidenceStart.other W132 (Or.inl ne_a1_b1)
      have f139 : Fld Z h132 a1 "com/example/dendrocover/dendrocover/Network" "incident" "[I" .null := F_incident.other W132 (Or.inl ne_a1_b1)
      have f140 : Ax Z h132 a4 .int (F.map Value.int) := A4.other W132 ne_a4_b1
      have f141 : Ax Z h132 a5 .int (S.map Value.int) := A5.other W132 ne_a5_b1
      have f142 : Ax Z h132 b1 .int (ss1.map Value.int) := (by rw [hss1, List.map_set]; exact A132)
      have Z132 : n0 ≤ h132.size := Nat.le_trans Z0 (Keep.of_wr W132).1
      have N132 := Fr.snoc X132 N0 gb
      have K132 : Keep hO h132 [a1] := K0.wr W132 (Or.inr sz_b1)
      refine Done.step st132 ?_
      show Done p e below s _ _ _ (T132.setTop (mkF m 117 #[.val (.ref a1), .val (.int p2), .val (.int p3), .val (.ref a4), .val (.ref a5), .val (.ref a6), .val (.int (i6 + y2)), .val (.int i7)] []))
      refine Done.step (fun t k => XS.iinc X132.here hx rfl (hb hby d1_117) rfl (l' := #[.val (.ref a1), .val (.int p2), .val (.int p3), .val (.ref a4), .val (.ref a5), .val (.ref a6), .val (.int (i6 + y2)), .val (.int (i7 + (1 : Int32)))]) rfl k) ?_
      show Done p e below s _ _ _ (T132.setTop (mkF m 120 #[.val (.ref a1), .val (.int p2), .val (.int p3), .val (.ref a4), .val (.ref a5), .val (.ref a6), .val (.int (i6 + y2)), .val (.int (i7 + (1 : Int32)))] []))
      refine Done.step (fun t k => XS.goto X132.here hx rfl (pc0 := 120) (pc' := 88) rfl (hb hby d1_120) (by decide) (by decide) k) ?_
      show Done p e below s _ _ _ (T132.setTop (mkF m 88 #[.val (.ref a1), .val (.int p2), .val (.int p3), .val (.ref a4), .val (.ref a5), .val (.ref a6), .val (.int (i6 + y2)), .val (.int (i7 + (1 : Int32)))] []))
      have hsv2 := hsv1.same (fun j hj => net_f tt j)
      exact ih T132 _ h132 ss1 (i6 + y2) (i7 + (1 : Int32)) (tt + 1) X132 N132 Z132 e132 K132 f133 f134 f135 f136 f137 f138 f139 f140 f141 f142 hlss1 ht3 hi7 (Nat.le_add_left _ _) ht4 (by rw [hz]; congr 1; exact own_cast tt) hsv2
theorem d1_43 : decode prog_20_method_1_code 43 = .ok (.iload 6, 2) := by decide +kernel
theorem d1_45 : decode prog_20_method_1_code 45 = .ok (.iload_n 2, 1) := by decide +kernel
theorem d1_46 : decode prog_20_method_1_code 46 = .ok (.if_icmp .gt 36, 3) := by decide +kernel
theorem d1_49 : decode prog_20_method_1_code 49 = .ok (.aload_n 0, 1) := by decide +kernel
theorem d1_50 : decode prog_20_method_1_code 50 = .ok (.getfield 26, 3) := by decide +kernel
theorem d1_53 : decode prog_20_method_1_code 53 = .ok (.aload_n 3, 1) := by decide +kernel
theorem d1_54 : decode prog_20_method_1_code 54 = .ok (.iload 6, 2) := by decide +kernel
theorem d1_56 : decode prog_20_method_1_code 56 = .ok (.iaload, 1) := by decide +kernel
theorem d1_57 : decode prog_20_method_1_code 57 = .ok (.dup2, 1) := by decide +kernel
theorem d1_58 : decode prog_20_method_1_code 58 = .ok (.iaload, 1) := by decide +kernel
theorem d1_59 : decode prog_20_method_1_code 59 = .ok (.iconst 1, 1) := by decide +kernel
theorem d1_60 : decode prog_20_method_1_code 60 = .ok (.iadd, 1) := by decide +kernel
theorem d1_61 : decode prog_20_method_1_code 61 = .ok (.iastore, 1) := by decide +kernel
theorem d1_62 : decode prog_20_method_1_code 62 = .ok (.aload_n 0, 1) := by decide +kernel
theorem d1_63 : decode prog_20_method_1_code 63 = .ok (.getfield 26, 3) := by decide +kernel
theorem d1_66 : decode prog_20_method_1_code 66 = .ok (.aload 4, 2) := by decide +kernel
theorem d1_68 : decode prog_20_method_1_code 68 = .ok (.iload 6, 2) := by decide +kernel
theorem d1_70 : decode prog_20_method_1_code 70 = .ok (.iaload, 1) := by decide +kernel
theorem d1_71 : decode prog_20_method_1_code 71 = .ok (.dup2, 1) := by decide +kernel
theorem d1_72 : decode prog_20_method_1_code 72 = .ok (.iaload, 1) := by decide +kernel
theorem d1_73 : decode prog_20_method_1_code 73 = .ok (.iconst 1, 1) := by decide +kernel
theorem d1_74 : decode prog_20_method_1_code 74 = .ok (.iadd, 1) := by decide +kernel
theorem d1_75 : decode prog_20_method_1_code 75 = .ok (.iastore, 1) := by decide +kernel
theorem d1_76 : decode prog_20_method_1_code 76 = .ok (.iinc 6 1, 3) := by decide +kernel
theorem d1_79 : decode prog_20_method_1_code 79 = .ok (.goto (-36), 3) := by decide +kernel
theorem d1_82 : decode prog_20_method_1_code 82 = .ok (.iconst 0, 1) := by decide +kernel
theorem d1_83 : decode prog_20_method_1_code 83 = .ok (.istore 6, 2) := by decide +kernel
theorem d1_85 : decode prog_20_method_1_code 85 = .ok (.iconst 1, 1) := by decide +kernel
theorem d1_86 : decode prog_20_method_1_code 86 = .ok (.istore 7, 2) := by decide +kernel
set_option maxRecDepth 65536 in
set_option maxHeartbeats 40000000 in
theorem lp43 {p : Program} {l : Launch} {e : Env} {s : State} {m : MethodId} {args : Array Value} {below : List Frame} {meth : Method} {c : Code} {Z : State} {a0 : Array Value} {n0 : Nat} {hO : Heap} (a1 : Addr) (p2 p3 : Int32) (a4 a5 a6 : Addr) (F S : List Int32) (nn vv : Nat) (b1 : Addr)
    (hx : p.tables.exec = Jvm.exec) (hZ : Z.Warmed39 s.vm) (hw : ∀ d ∈ tables_1, d.before a0 Z = true) (hby : c.code = prog_20_method_1_code) (hml : c.maxLocals = 8) (hown : s.vm.findClass "com/example/dendrocover/dendrocover/Network" = some m.cls) (hlk : meth.locks = false) (hret : meth.sig.returnType = (none : Option FieldType)) (hnm : meth.name = "<init>") (g1 : n0 ≤ a1) (hv : p2.toInt = vv) (hv2 : vv ≤ 256) (hn : p3.toInt = nn) (hn2 : nn ≤ 2) (hF : nn < F.length) (hS : nn < S.length) (hf : ∀ i, 1 ≤ i → i ≤ nn → 1 ≤ fv F i ∧ fv F i ≤ (vv : Int)) (hs : ∀ i, 1 ≤ i → i ≤ nn → 1 ≤ fv S i ∧ fv S i ≤ (vv : Int)) (gb : n0 ≤ b1) (sz_b1 : hO.size ≤ b1) (ne_a1_a4 : a1 ≠ a4) (ne_a1_a5 : a1 ≠ a5) (ne_a1_b1 : a1 ≠ b1) (ne_a4_b1 : a4 ≠ b1) (ne_a5_b1 : a5 ≠ b1) :
    ∀ (k : Nat) (T : State) (locs : List Loc) (h0 : Heap) (ss : List Int32) (i6 : Int32) (ii : Nat) (X0 : Stand p l e ({ frames := 1, cells := 2, slots := 262, locals := 12 } : Room) s m args below meth c T locs 1 258) (N0 : Fr n0 locs) (Z0 : n0 ≤ h0.size) (e0 : T.heap = h0) (K0 : Keep hO h0 [a1]) (E1 : Exa Z h0 a1 "com/example/dendrocover/dendrocover/Network") (F_roadCount : Fld Z h0 a1 "com/example/dendrocover/dendrocover/Network" "roadCount" "I" (.int p3)) (F_firstEnd : Fld Z h0 a1 "com/example/dendrocover/dendrocover/Network" "firstEnd" "[I" (.ref a4)) (F_secondEnd : Fld Z h0 a1 "com/example/dendrocover/dendrocover/Network" "secondEnd" "[I" (.ref a5)) (F_length : Fld Z h0 a1 "com/example/dendrocover/dendrocover/Network" "length" "[I" (.ref a6)) (F_incidenceStart : Fld Z h0 a1 "com/example/dendrocover/dendrocover/Network" "incidenceStart" "[I" (.ref b1)) (F_incident : Fld Z h0 a1 "com/example/dendrocover/dendrocover/Network" "incident" "[I" .null) (A4 : Ax Z h0 a4 .int (F.map Value.int)) (A5 : Ax Z h0 a5 .int (S.map Value.int)) (Ab : Ax Z h0 b1 .int (ss.map Value.int)) (hlen : ss.length = vv + 2) (hk : nn - ii < k) (hi : i6.toInt = (ii : Int) + 1) (hii : ii ≤ nn) (hsv : SV ss (fun j => cE (fv F) (fv S) ii j)), Done p e below s (fun v h L => v = none ∧ Fr n0 L ∧ Keep hO h [a1] ∧ Exa Z h a1 "com/example/dendrocover/dendrocover/Network" ∧ Fld Z h a1 "com/example/dendrocover/dendrocover/Network" "roadCount" "I" (.int p3) ∧ Fld Z h a1 "com/example/dendrocover/dendrocover/Network" "firstEnd" "[I" (.ref a4) ∧ Fld Z h a1 "com/example/dendrocover/dendrocover/Network" "secondEnd" "[I" (.ref a5) ∧ Fld Z h a1 "com/example/dendrocover/dendrocover/Network" "length" "[I" (.ref a6)) ({ frames := 1, cells := 2, slots := 262, locals := 12 } : Room).cells ({ frames := 1, cells := 2, slots := 262, locals := 12 } : Room).slots (T.setTop (mkF m 43 #[.val (.ref a1), .val (.int p2), .val (.int p3), .val (.ref a4), .val (.ref a5), .val (.ref a6), .val (.int i6), .unset] [])) := by
  intro k
  induction k with
  | zero => intro T locs h0 ss i6 ii X0 N0 Z0 e0 K0 E1 F_roadCount F_firstEnd F_secondEnd F_length F_incidenceStart F_incident A4 A5 Ab hlen hk hi hii hsv; exact absurd hk (Nat.not_lt_zero _)
  | succ k ih =>
    intro T locs h0 ss i6 ii X0 N0 Z0 e0 K0 E1 F_roadCount F_firstEnd F_secondEnd F_length F_incidenceStart F_incident A4 A5 Ab hlen hk hi hii hsv
    show Done p e below s _ _ _ (T.setTop (mkF m 43 #[.val (.ref a1), .val (.int p2), .val (.int p3), .val (.ref a4), .val (.ref a5), .val (.ref a6), .val (.int i6), .unset] []))
    refine Done.step (fun t k => XS.iload X0.here hx rfl (hb hby d1_43) rfl k) ?_
    show Done p e below s _ _ _ (T.setTop (mkF m 45 #[.val (.ref a1), .val (.int p2), .val (.int p3), .val (.ref a4), .val (.ref a5), .val (.ref a6), .val (.int i6), .unset] [(.int i6)]))
    refine Done.step (fun t k => XS.iloadN X0.here hx rfl (hb hby d1_45) rfl k) ?_
    show Done p e below s _ _ _ (T.setTop (mkF m 46 #[.val (.ref a1), .val (.int p2), .val (.int p3), .val (.ref a4), .val (.ref a5), .val (.ref a6), .val (.int i6), .unset] [(.int p3), (.int i6)]))
    by_cases c1 : p3 < i6
    · refine Done.step (fun t k => XS.icmpYes X0.here hx rfl (pc0 := 46) (pc' := 82) rfl (hb hby d1_46) rfl (tlt c1).2.2.1 (by decide) (by decide) k) ?_
      show Done p e below s _ _ _ (T.setTop (mkF m 82 #[.val (.ref a1), .val (.int p2), .val (.int p3), .val (.ref a4), .val (.ref a5), .val (.ref a6), .val (.int i6), .unset] []))
      refine Done.step (fun t k => XS.iconst X0.here hx rfl (hb hby d1_82) k) ?_
      show Done p e below s _ _ _ (T.setTop (mkF m 83 #[.val (.ref a1), .val (.int p2), .val (.int p3), .val (.ref a4), .val (.ref a5), .val (.ref a6), .val (.int i6), .unset] [(.int (0 : Int32))]))
      refine Done.step (fun t k => XS.istore X0.here hx rfl (hb hby d1_83) rfl (l' := #[.val (.ref a1), .val (.int p2), .val (.int p3), .val (.ref a4), .val (.ref a5), .val (.ref a6), .val (.int (0 : Int32)), .unset]) rfl k) ?_
      show Done p e below s _ _ _ (T.setTop (mkF m 85 #[.val (.ref a1), .val (.int p2), .val (.int p3), .val (.ref a4), .val (.ref a5), .val (.ref a6), .val (.int (0 : Int32)), .unset] []))
      refine Done.step (fun t k => XS.iconst X0.here hx rfl (hb hby d1_85) k) ?_
      show Done p e below s _ _ _ (T.setTop (mkF m 86 #[.val (.ref a1), .val (.int p2), .val (.int p3), .val (.ref a4), .val (.ref a5), .val (.ref a6), .val (.int (0 : Int32)), .unset] [(.int (1 : Int32))]))
      refine Done.step (fun t k => XS.istore X0.here hx rfl (hb hby d1_86) rfl (l' := #[.val (.ref a1), .val (.int p2), .val (.int p3), .val (.ref a4), .val (.ref a5), .val (.ref a6), .val (.int (0 : Int32)), .val (.int (1 : Int32))]) rfl k) ?_
      show Done p e below s _ _ _ (T.setTop (mkF m 88 #[.val (.ref a1), .val (.int p2), .val (.int p3), .val (.ref a4), .val (.ref a5), .val (.ref a6), .val (.int (0 : Int32)), .val (.int (1 : Int32))] []))
      have hgt : (nn : Int) < i6.toInt := by have := Int32.lt_iff_toInt_lt.mp c1; omega
      obtain rfl : ii = nn := by omega
      have hsv2 : SV ss (fun j => if j < ((1 : Nat) : Int) then cL (fv F) (fv S) ii j else cE (fv F) (fv S) ii j) := hsv.same (fun j hj => by rw [if_neg (by omega)])
      exact lp88 a1 p2 p3 a4 a5 a6 F S ii vv b1 hx hZ hw hby hml hown hlk hret hnm g1 hv hv2 hn hn2 hF hS hf hs gb sz_b1 ne_a1_a4 ne_a1_a5 ne_a1_b1 ne_a4_b1 ne_a5_b1 (vv + 2)  T _ h0 ss (0 : Int32) (1 : Int32) 1 X0 N0 Z0 e0 K0 E1 F_roadCount F_firstEnd F_secondEnd F_length F_incidenceStart F_incident A4 A5 Ab hlen (by omega) rfl (Nat.le_refl _) (by omega) (by rw [show ((1 : Nat) : Int) - 1 = 0 from rfl, cL_zero _ _ _ _ hf hs]; rfl) hsv2
    · refine Done.step (fun t k => XS.icmpNo X0.here hx rfl (hb hby d1_46) rfl (flt c1).2.2.1 k) ?_
      show Done p e below s _ _ _ (T.setTop (mkF m 49 #[.val (.ref a1), .val (.int p2), .val (.int p3), .val (.ref a4), .val (.ref a5), .val (.ref a6), .val (.int i6), .unset] []))
      have hle : i6.toInt ≤ nn := by have := Int.not_lt.mp (fun q => c1 (Int32.lt_iff_toInt_lt.mpr q)); omega
      refine Done.step (fun t k => XS.aloadN X0.here hx rfl (hb hby d1_49) rfl rfl k) ?_
      show Done p e below s _ _ _ (T.setTop (mkF m 50 #[.val (.ref a1), .val (.int p2), .val (.int p3), .val (.ref a4), .val (.ref a5), .val (.ref a6), .val (.int i6), .unset] [(.ref a1)]))
      obtain ⟨T101, X101, e101, st101⟩ := getF X0 hx hZ hown (host := "") (Or.inl (hw _ (List.mem_of_getElem? (i := 21) rfl))) Via.refl e0 F_incidenceStart (g := (mkF m 50 #[.val (.ref a1), .val (.int p2), .val (.int p3), .val (.ref a4), .val (.ref a5), .val (.ref a6), .val (.int i6), .unset] [(.ref a1)])) rfl rfl (hb hby d1_50)
      refine Done.step st101 ?_
      show Done p e below s _ _ _ (T101.setTop (mkF m 53 #[.val (.ref a1), .val (.int p2), .val (.int p3), .val (.ref a4), .val (.ref a5), .val (.ref a6), .val (.int i6), .unset] [(.ref b1)]))
      refine Done.step (fun t k => XS.aloadN X101.here hx rfl (hb hby d1_53) rfl rfl k) ?_
      show Done p e below s _ _ _ (T101.setTop (mkF m 54 #[.val (.ref a1), .val (.int p2), .val (.int p3), .val (.ref a4), .val (.ref a5), .val (.ref a6), .val (.int i6), .unset] [(.ref a4), (.ref b1)]))
      refine Done.step (fun t k => XS.iload X101.here hx rfl (hb hby d1_54) rfl k) ?_
      show Done p e below s _ _ _ (T101.setTop (mkF m 56 #[.val (.ref a1), .val (.int p2), .val (.int p3), .val (.ref a4), .val (.ref a5), .val (.ref a6), .val (.int i6), .unset] [(.int i6), (.ref a4), (.ref b1)]))
      have hi1 : ii + 1 ≤ nn := by omega
      have hi' : i6.toInt = ((ii + 1 : Nat) : Int) := by omega
      have hs7 := own_idx hi' (Nat.lt_of_le_of_lt hi1 hS)
      have hf7 := own_idx hi' (Nat.lt_of_le_of_lt hi1 hF)
      have hkk : nn - (ii + 1) < k := by omega
      have hi7 := own_inc hi (by omega)
      obtain ⟨x1, hx1⟩ := own_get (xs := F) hf7.2.2
      have hvx1 : fv F (ii + 1) = x1.toInt := by rw [← own_fv hx1, hf7.2.1]
      have hrx1 : 1 ≤ x1.toInt ∧ x1.toInt ≤ (vv : Int) + 1 := by have q := hf (ii + 1) (Nat.le_add_left _ _) hi1; rw [hvx1] at q; exact ⟨q.1, Int.le_trans q.2 (Int.le_add_of_nonneg_right (by decide))⟩
      refine Done.step (ldI X101 hx hZ e101 A4 (j := i6) (x := (.int x1)) (own_nneg hf7.1) (by rw [List.getElem?_map, hx1]; rfl) (g := (mkF m 56 #[.val (.ref a1), .val (.int p2), .val (.int p3), .val (.ref a4), .val (.ref a5), .val (.ref a6), .val (.int i6), .unset] [(.int i6), (.ref a4), (.ref b1)])) rfl rfl (hb hby d1_56)) ?_
      show Done p e below s _ _ _ (T101.setTop (mkF m 57 #[.val (.ref a1), .val (.int p2), .val (.int p3), .val (.ref a4), .val (.ref a5), .val (.ref a6), .val (.int i6), .unset] [(.int x1), (.ref b1)]))
      refine Done.step (fun t k => Jvm.Free.XT.dup2 X101.here hx rfl (hb hby d1_57) rfl rfl rfl k) ?_
      show Done p e below s _ _ _ (T101.setTop (mkF m 58 #[.val (.ref a1), .val (.int p2), .val (.int p3), .val (.ref a4), .val (.ref a5), .val (.ref a6), .val (.int i6), .unset] [(.int x1), (.ref b1), (.int x1), (.ref b1)]))
      have hix := own_in hrx1 hlen
      obtain ⟨x2, hx2⟩ := own_get (xs := ss) hix.2.1
      have hgx : x2.toInt = cE (fv F) (fv S) ii x1.toInt := hsv.at hx2 hix.2.2.2 hix.2.2.1
      have hz1 := own_p1 (x := x2) (b := 2 * ii) (by rw [hgx]; exact cE_rng _ _ _ _) (by omega)
      refine Done.step (ldI X101 hx hZ e101 Ab (j := x1) (x := (.int x2)) (own_nneg hix.1) (by rw [List.getElem?_map, hx2]; rfl) (g := (mkF m 58 #[.val (.ref a1), .val (.int p2), .val (.int p3), .val (.ref a4), .val (.ref a5), .val (.ref a6), .val (.int i6), .unset] [(.int x1), (.ref b1), (.int x1), (.ref b1)])) rfl rfl (hb hby d1_58)) ?_
      show Done p e below s _ _ _ (T101.setTop (mkF m 59 #[.val (.ref a1), .val (.int p2), .val (.int p3), .val (.ref a4), .val (.ref a5), .val (.ref a6), .val (.int i6), .unset] [(.int x2), (.int x1), (.ref b1)]))
      refine Done.step (fun t k => XS.iconst X101.here hx rfl (hb hby d1_59) k) ?_
      show Done p e below s _ _ _ (T101.setTop (mkF m 60 #[.val (.ref a1), .val (.int p2), .val (.int p3), .val (.ref a4), .val (.ref a5), .val (.ref a6), .val (.int i6), .unset] [(.int (1 : Int32)), (.int x2), (.int x1), (.ref b1)]))
      refine Done.step (fun t k => XS.iadd X101.here hx rfl (hb hby d1_60) rfl k) ?_
      show Done p e below s _ _ _ (T101.setTop (mkF m 61 #[.val (.ref a1), .val (.int p2), .val (.int p3), .val (.ref a4), .val (.ref a5), .val (.ref a6), .val (.int i6), .unset] [(.int (x2 + (1 : Int32))), (.int x1), (.ref b1)]))
      obtain ⟨ss1, hss1⟩ : ∃ l, l = ss.set (x1).toNatClampNeg (x2 + (1 : Int32)) := ⟨_, rfl⟩
      have hlss1 := own_len hlen hss1
      have hsv1 := hsv.set hix.2.2.1 hz1 hss1
      obtain ⟨T102, h102, X102, e102, W102, A102, st102⟩ := stoI X101 hx hZ e101 Ab (j := x1) (own_nneg hix.1) (i := (x1).toNatClampNeg) rfl (by rw [List.length_map]; exact hix.2.1) (g := (mkF m 61 #[.val (.ref a1), .val (.int p2), .val (.int p3), .val (.ref a4), .val (.ref a5), .val (.ref a6), .val (.int i6), .unset] [(.int (x2 + (1 : Int32))), (.int x1), (.ref b1)])) rfl rfl (hb hby d1_61)
      have f103 : Exa Z h102 a1 "com/example/dendrocover/dendrocover/Network" := E1.wr W102
      have f104 : Fld Z h102 a1 "com/example/dendrocover/dendrocover/Network" "roadCount" "I" (.int p3) := F_roadCount.other W102 (Or.inl ne_a1_b1)
      have f105 : Fld Z h102 a1 "com/example/dendrocover/dendrocover/Network" "firstEnd" "[I" (.ref a4) := F_firstEnd.other W102 (Or.inl ne_a1_b1)
      have f106 : Fld Z h102 a1 "com/example/dendrocover/dendrocover/Network" "secondEnd" "[I" (.ref a5) := F_secondEnd.other W102 (Or.inl ne_a1_b1)
      have f107 : Fld Z h102 a1 "com/example/dendrocover/dendrocover/Network" "length" "[I" (.ref a6) := F_length.other W102 (Or.inl ne_a1_b1)
      have f108 : Fld Z h102 a1 "com/example/dendrocover/dendrocover/Network" "incidenceStart" "[I" (.ref b1) := F_incidenceStart.other W102 (Or.inl ne_a1_b1)
      have f109 : Fld Z h102 a1 "com/example/dendrocover/dendrocover/Network" "incident" "[I" .null := F_incident.other W102 (Or.inl ne_a1_b1)
      have f110 : Ax Z h102 a4 .int (F.map Value.int) := A4.other W102 ne_a4_b1
      have f111 : Ax Z h102 a5 .int (S.map Value.int) := A5.other W102 ne_a5_b1
      have f112 : Ax Z h102 b1 .int (ss1.map Value.int) := (by rw [hss1, List.map_set]; exact A102)
      have Z102 : n0 ≤ h102.size := Nat.le_trans Z0 (Keep.of_wr W102).1
      have N102 := Fr.snoc X102 N0 gb
      have K102 : Keep hO h102 [a1] := K0.wr W102 (Or.inr sz_b1)
      refine Done.step st102 ?_
      show Done p e below s _ _ _ (T102.setTop (mkF m 62 #[.val (.ref a1), .val (.int p2), .val (.int p3), .val (.ref a4), .val (.ref a5), .val (.ref a6), .val (.int i6), .unset] []))
      refine Done.step (fun t k => XS.aloadN X102.here hx rfl (hb hby d1_62) rfl rfl k) ?_
      show Done p e below s _ _ _ (T102.setTop (mkF m 63 #[.val (.ref a1), .val (.int p2), .val (.int p3), .val (.ref a4), .val (.ref a5), .val (.ref a6), .val (.int i6), .unset] [(.ref a1)]))
      obtain ⟨T113, X113, e113, st113⟩ := getF X102 hx hZ hown (host := "") (Or.inl (hw _ (List.mem_of_getElem? (i := 21) rfl))) Via.refl e102 f108 (g := (mkF m 63 #[.val (.ref a1), .val (.int p2), .val (.int p3), .val (.ref a4), .val (.ref a5), .val (.ref a6), .val (.int i6), .unset] [(.ref a1)])) rfl rfl (hb hby d1_63)
      refine Done.step st113 ?_
      show Done p e below s _ _ _ (T113.setTop (mkF m 66 #[.val (.ref a1), .val (.int p2), .val (.int p3), .val (.ref a4), .val (.ref a5), .val (.ref a6), .val (.int i6), .unset] [(.ref b1)]))
      refine Done.step (fun t k => XS.aload X113.here hx rfl (hb hby d1_66) rfl rfl k) ?_
      show Done p e below s _ _ _ (T113.setTop (mkF m 68 #[.val (.ref a1), .val (.int p2), .val (.int p3), .val (.ref a4), .val (.ref a5), .val (.ref a6), .val (.int i6), .unset] [(.ref a5), (.ref b1)]))
      refine Done.step (fun t k => XS.iload X113.here hx rfl (hb hby d1_68) rfl k) ?_
      show Done p e below s _ _ _ (T113.setTop (mkF m 70 #[.val (.ref a1), .val (.int p2), .val (.int p3), .val (.ref a4), .val (.ref a5), .val (.ref a6), .val (.int i6), .unset] [(.int i6), (.ref a5), (.ref b1)]))
      obtain ⟨y1, hy1⟩ := own_get (xs := S) hs7.2.2
      have hvy1 : fv S (ii + 1) = y1.toInt := by rw [← own_fv hy1, hs7.2.1]
      have hry1 : 1 ≤ y1.toInt ∧ y1.toInt ≤ (vv : Int) + 1 := by have q := hs (ii + 1) (Nat.le_add_left _ _) hi1; rw [hvy1] at q; exact ⟨q.1, Int.le_trans q.2 (Int.le_add_of_nonneg_right (by decide))⟩
      refine Done.step (ldI X113 hx hZ e113 f111 (j := i6) (x := (.int y1)) (own_nneg hs7.1) (by rw [List.getElem?_map, hy1]; rfl) (g := (mkF m 70 #[.val (.ref a1), .val (.int p2), .val (.int p3), .val (.ref a4), .val (.ref a5), .val (.ref a6), .val (.int i6), .unset] [(.int i6), (.ref a5), (.ref b1)])) rfl rfl (hb hby d1_70)) ?_
      show Done p e below s _ _ _ (T113.setTop (mkF m 71 #[.val (.ref a1), .val (.int p2), .val (.int p3), .val (.ref a4), .val (.ref a5), .val (.ref a6), .val (.int i6), .unset] [(.int y1), (.ref b1)]))
      refine Done.step (fun t k => Jvm.Free.XT.dup2 X113.here hx rfl (hb hby d1_71) rfl rfl rfl k) ?_
      show Done p e below s _ _ _ (T113.setTop (mkF m 72 #[.val (.ref a1), .val (.int p2), .val (.int p3), .val (.ref a4), .val (.ref a5), .val (.ref a6), .val (.int i6), .unset] [(.int y1), (.ref b1), (.int y1), (.ref b1)]))
      have hiy := own_in hry1 hlss1
      obtain ⟨y2, hy2⟩ := own_get (xs := ss1) hiy.2.1
      have hgy : y2.toInt = if y1.toInt = x1.toInt then x2.toInt + 1 else cE (fv F) (fv S) ii y1.toInt := hsv1.at hy2 hiy.2.2.2 hiy.2.2.1
      have hz2 := own_p1 (x := y2) (net_e hii hgx hgy) (by omega)
      refine Done.step (ldI X113 hx hZ e113 f112 (j := y1) (x := (.int y2)) (own_nneg hiy.1) (by rw [List.getElem?_map, hy2]; rfl) (g := (mkF m 72 #[.val (.ref a1), .val (.int p2), .val (.int p3), .val (.ref a4), .val (.ref a5), .val (.ref a6), .val (.int i6), .unset] [(.int y1), (.ref b1), (.int y1), (.ref b1)])) rfl rfl (hb hby d1_72)) ?_
      show Done p e below s _ _ _ (T113.setTop (mkF m 73 #[.val (.ref a1), .val (.int p2), .val (.int p3), .val (.ref a4), .val (.ref a5), .val (.ref a6), .val (.int i6), .unset] [(.int y2), (.int y1), (.ref b1)]))
      refine Done.step (fun t k => XS.iconst X113.here hx rfl (hb hby d1_73) k) ?_
      show Done p e below s _ _ _ (T113.setTop (mkF m 74 #[.val (.ref a1), .val (.int p2), .val (.int p3), .val (.ref a4), .val (.ref a5), .val (.ref a6), .val (.int i6), .unset] [(.int (1 : Int32)), (.int y2), (.int y1), (.ref b1)]))
      refine Done.step (fun t k => XS.iadd X113.here hx rfl (hb hby d1_74) rfl k) ?_
      show Done p e below s _ _ _ (T113.setTop (mkF m 75 #[.val (.ref a1), .val (.int p2), .val (.int p3), .val (.ref a4), .val (.ref a5), .val (.ref a6), .val (.int i6), .unset] [(.int (y2 + (1 : Int32))), (.int y1), (.ref b1)]))
      obtain ⟨ss2, hss2⟩ : ∃ l, l = ss1.set (y1).toNatClampNeg (y2 + (1 : Int32)) := ⟨_, rfl⟩
      have hlss2 := own_len hlss1 hss2
      have hsv2 := hsv1.set hiy.2.2.1 hz2 hss2
      obtain ⟨T114, h114, X114, e114, W114, A114, st114⟩ := stoI X113 hx hZ e113 f112 (j := y1) (own_nneg hiy.1) (i := (y1).toNatClampNeg) rfl (by rw [List.length_map]; exact hiy.2.1) (g := (mkF m 75 #[.val (.ref a1), .val (.int p2), .val (.int p3), .val (.ref a4), .val (.ref a5), .val (.ref a6), .val (.int i6), .unset] [(.int (y2 + (1 : Int32))), (.int y1), (.ref b1)])) rfl rfl (hb hby d1_75)
      have f115 : Exa Z h114 a1 "com/example/dendrocover/dendrocover/Network" := f103.wr W114
      have f116 : Fld Z h114 a1 "com/example/dendrocover/dendrocover/Network" "roadCount" "I" (.int p3) := f104.other W114 (Or.inl ne_a1_b1)
      have f117 : Fld Z h114 a1 "com/example/dendrocover/dendrocover/Network" "firstEnd" "[I" (.ref a4) := f105.other W114 (Or.inl ne_a1_b1)
      have f118 : Fld Z h114 a1 "com/example/dendrocover/dendrocover/Network" "secondEnd" "[I" (.ref a5) := f106.other W114 (Or.inl ne_a1_b1)
      have f119 : Fld Z h114 a1 "com/example/dendrocover/dendrocover/Network" "length" "[I" (.ref a6) := f107.other W114 (Or.inl ne_a1_b1)
      have f120 : Fld Z h114 a1 "com/example/dendrocover/dendrocover/Network" "incidenceStart" "[I" (.ref b1) := f108.other W114 (Or.inl ne_a1_b1)
      have f121 : Fld Z h114 a1 "com/example/dendrocover/dendrocover/Network" "incident" "[I" .null := f109.other W114 (Or.inl ne_a1_b1)
      have f122 : Ax Z h114 a4 .int (F.map Value.int) := f110.other W114 ne_a4_b1
      have f123 : Ax Z h114 a5 .int (S.map Value.int) := f111.other W114 ne_a5_b1
      have f124 : Ax Z h114 b1 .int (ss2.map Value.int) := (by rw [hss2, List.map_set]; exact A114)
      have Z114 : n0 ≤ h114.size := Nat.le_trans Z102 (Keep.of_wr W114).1
      have N114 := Fr.snoc X114 N102 gb
      have K114 : Keep hO h114 [a1] := K102.wr W114 (Or.inr sz_b1)
      refine Done.step st114 ?_
      show Done p e below s _ _ _ (T114.setTop (mkF m 76 #[.val (.ref a1), .val (.int p2), .val (.int p3), .val (.ref a4), .val (.ref a5), .val (.ref a6), .val (.int i6), .unset] []))
      refine Done.step (fun t k => XS.iinc X114.here hx rfl (hb hby d1_76) rfl (l' := #[.val (.ref a1), .val (.int p2), .val (.int p3), .val (.ref a4), .val (.ref a5), .val (.ref a6), .val (.int (i6 + (1 : Int32))), .unset]) rfl k) ?_
      show Done p e below s _ _ _ (T114.setTop (mkF m 79 #[.val (.ref a1), .val (.int p2), .val (.int p3), .val (.ref a4), .val (.ref a5), .val (.ref a6), .val (.int (i6 + (1 : Int32))), .unset] []))
      refine Done.step (fun t k => XS.goto X114.here hx rfl (pc0 := 79) (pc' := 43) rfl (hb hby d1_79) (by decide) (by decide) k) ?_
      show Done p e below s _ _ _ (T114.setTop (mkF m 43 #[.val (.ref a1), .val (.int p2), .val (.int p3), .val (.ref a4), .val (.ref a5), .val (.ref a6), .val (.int (i6 + (1 : Int32))), .unset] []))
      have hsv3 := hsv2.same (fun j hj => net_d hvx1 hvy1 hgx hgy j)
      exact ih T114 _ h114 ss2 (i6 + (1 : Int32)) (ii + 1) X114 N114 Z114 e114 K114 f115 f116 f117 f118 f119 f120 f121 f122 f123 f124 hlss2 hkk (by rw [hi7]; rfl) hi1 hsv3
theorem d1_0 : decode prog_20_method_1_code 0 = .ok (.aload_n 0, 1) := by decide +kernel
theorem d1_1 : decode prog_20_method_1_code 1 = .ok (.invokespecial 1, 3) := by decide +kernel
theorem d1_4 : decode prog_20_method_1_code 4 = .ok (.aload_n 0, 1) := by decide +kernel
theorem d1_5 : decode prog_20_method_1_code 5 = .ok (.iload_n 1, 1) := by decide +kernel
theorem d1_6 : decode prog_20_method_1_code 6 = .ok (.putfield 7, 3) := by decide +kernel
theorem d1_9 : decode prog_20_method_1_code 9 = .ok (.aload_n 0, 1) := by decide +kernel
theorem d1_10 : decode prog_20_method_1_code 10 = .ok (.iload_n 2, 1) := by decide +kernel
theorem d1_11 : decode prog_20_method_1_code 11 = .ok (.putfield 13, 3) := by decide +kernel
theorem d1_14 : decode prog_20_method_1_code 14 = .ok (.aload_n 0, 1) := by decide +kernel
theorem d1_15 : decode prog_20_method_1_code 15 = .ok (.aload_n 3, 1) := by decide +kernel
theorem d1_16 : decode prog_20_method_1_code 16 = .ok (.putfield 16, 3) := by decide +kernel
theorem d1_19 : decode prog_20_method_1_code 19 = .ok (.aload_n 0, 1) := by decide +kernel
theorem d1_20 : decode prog_20_method_1_code 20 = .ok (.aload 4, 2) := by decide +kernel
theorem d1_22 : decode prog_20_method_1_code 22 = .ok (.putfield 20, 3) := by decide +kernel
theorem d1_25 : decode prog_20_method_1_code 25 = .ok (.aload_n 0, 1) := by decide +kernel
theorem d1_26 : decode prog_20_method_1_code 26 = .ok (.aload 5, 2) := by decide +kernel
theorem d1_28 : decode prog_20_method_1_code 28 = .ok (.putfield 23, 3) := by decide +kernel
theorem d1_31 : decode prog_20_method_1_code 31 = .ok (.aload_n 0, 1) := by decide +kernel
theorem d1_32 : decode prog_20_method_1_code 32 = .ok (.iload_n 1, 1) := by decide +kernel
theorem d1_33 : decode prog_20_method_1_code 33 = .ok (.iconst 2, 1) := by decide +kernel
theorem d1_34 : decode prog_20_method_1_code 34 = .ok (.iadd, 1) := by decide +kernel
theorem d1_35 : decode prog_20_method_1_code 35 = .ok (.newarray .int, 2) := by decide +kernel
theorem d1_37 : decode prog_20_method_1_code 37 = .ok (.putfield 26, 3) := by decide +kernel
theorem d1_40 : decode prog_20_method_1_code 40 = .ok (.iconst 1, 1) := by decide +kernel
theorem d1_41 : decode prog_20_method_1_code 41 = .ok (.istore 6, 2) := by decide +kernel
theorem pn_1 : plainName "com/example/dendrocover/dendrocover/Network" = true := by first | (simp [plainName, overriddenIn]; done) | decide +kernel
theorem ef_1 (m : MethodId) (a1 : Addr) (p2 : Int32) (p3 : Int32) (a4 : Addr) (a5 : Addr) (a6 : Addr) : entryFrame m #[(.ref a1), (.int p2), (.int p3), (.ref a4), (.ref a5), (.ref a6)] 8 = mkF m 0 #[.val (.ref a1), .val (.int p2), .val (.int p3), .val (.ref a4), .val (.ref a5), .val (.ref a6), .unset, .unset] [] := by first | (simp [entryFrame, mkF, argsToLocals, Value.category]; done) | rfl
def Qrm1 (Z : State) (a1 : Addr) (p2 : Int32) (p3 : Int32) (a4 : Addr) (a5 : Addr) (a6 : Addr) (F S : List Int32) (nn vv : Nat) (h0 : Heap) (n0 : Nat) : Option Value → Heap → List Loc → Prop := fun v h L => v = none ∧ Fr n0 L ∧ Keep h0 h [a1] ∧ Exa Z h a1 "com/example/dendrocover/dendrocover/Network" ∧ Fld Z h a1 "com/example/dendrocover/dendrocover/Network" "roadCount" "I" (.int p3) ∧ Fld Z h a1 "com/example/dendrocover/dendrocover/Network" "firstEnd" "[I" (.ref a4) ∧ Fld Z h a1 "com/example/dendrocover/dendrocover/Network" "secondEnd" "[I" (.ref a5) ∧ Fld Z h a1 "com/example/dendrocover/dendrocover/Network" "length" "[I" (.ref a6)
set_option maxRecDepth 65536 in
set_option maxHeartbeats 40000000 in
theorem rm1 (l : Launch) (Z : State) (a0 : Array Value) (hw : ∀ d ∈ tables_1, d.before a0 Z = true) (ws : List Jvm.Cond) (a1 : Addr) (p2 : Int32) (p3 : Int32) (a4 : Addr) (a5 : Addr) (a6 : Addr) (F S : List Int32) (nn vv : Nat) (h0 : Heap) (n0 : Nat) (Z0 : n0 ≤ h0.size) (E1 : Exa Z h0 a1 "com/example/dendrocover/dendrocover/Network") (F_vertexCount : Fld Z h0 a1 "com/example/dendrocover/dendrocover/Network" "vertexCount" "I" (.int (0 : Int32))) (F_roadCount : Fld Z h0 a1 "com/example/dendrocover/dendrocover/Network" "roadCount" "I" (.int (0 : Int32))) (F_firstEnd : Fld Z h0 a1 "com/example/dendrocover/dendrocover/Network" "firstEnd" "[I" .null) (F_secondEnd : Fld Z h0 a1 "com/example/dendrocover/dendrocover/Network" "secondEnd" "[I" .null) (F_length : Fld Z h0 a1 "com/example/dendrocover/dendrocover/Network" "length" "[I" .null) (F_incidenceStart : Fld Z h0 a1 "com/example/dendrocover/dendrocover/Network" "incidenceStart" "[I" .null) (F_incident : Fld Z h0 a1 "com/example/dendrocover/dendrocover/Network" "incident" "[I" .null) (A4 : Ax Z h0 a4 .int (F.map Value.int)) (ne_a1_a4 : a1 ≠ a4) (A5 : Ax Z h0 a5 .int (S.map Value.int)) (ne_a1_a5 : a1 ≠ a5) (g1 : n0 ≤ a1) (hv : p2.toInt = vv) (hv2 : vv ≤ 256) (hn : p3.toInt = nn) (hn2 : nn ≤ 2) (hF : nn < F.length) (hS : nn < S.length) (hf : ∀ i, 1 ≤ i → i ≤ nn → 1 ≤ fv F i ∧ fv F i ≤ (vv : Int)) (hs : ∀ i, 1 ≤ i → i ≤ nn → 1 ≤ fv S i ∧ fv S i ≤ (vv : Int)) :
    MetFree l (⟨"com/example/dendrocover/dendrocover/Network", "<init>", "(II[I[I[I)V"⟩ : MethodName) (head1 (Jvm.Cond.code (⟨"com/example/dendrocover/dendrocover/Network", "<init>", "(II[I[I[I)V"⟩ : MethodName) prog_20_method_1_code 8 none :: ws) ({ frames := 1, cells := 2, slots := 262, locals := 12 } : Room)) (fun a U => a = #[(.ref a1), (.int p2), (.int p3), (.ref a4), (.ref a5), (.ref a6)] ∧ Z.Warmed39 U.vm ∧ U.heap = h0) (fun _ _ _ _ _ => True) (fun _ U o U' => ∃ v L, o = .returned v ∧ Qrm1 Z a1 p2 p3 a4 a5 a6 F S nn vv h0 n0 v U'.heap L ∧ FrameEnd U o U' L ({ frames := 1, cells := 2, slots := 262, locals := 12 } : Room).cells ({ frames := 1, cells := 2, slots := 262, locals := 12 } : Room).slots) := by
  refine MetFree.of_bodySF (plainFor_of_name pn_1) hisR ?_
  intro p e s m args below meth c s₁ Bd hml0 hP hK
  obtain ⟨rfl, hZ, hh⟩ := hP
  have hx := Bd.exec
  have hby := Bd.bytes
  have hml : c.maxLocals = 8 := hml0
  have hown : s.vm.findClass "com/example/dendrocover/dendrocover/Network" = some m.cls := findClass_of_methodNamed Bd.named
  have hnm := (name_of_methodNamed Bd.named Bd.method).1
  have hlk : meth.locks = false := BodyLoose.notSynchronized Bd
  have hret := Bd.returns
  have X0 : Stand p l e ({ frames := 1, cells := 2, slots := 262, locals := 12 } : Room) s m #[(.ref a1), (.int p2), (.int p3), (.ref a4), (.ref a5), (.ref a6)] below meth c s₁ [] 0 0 := Stand.of_body Bd
  have e0 : s₁.heap = h0 := by rw [← hh, Bd.state]; rfl
  have N0 := Fr.nil n0
  show Done p e below s (Qrm1 Z a1 p2 p3 a4 a5 a6 F S nn vv h0 n0) ({ frames := 1, cells := 2, slots := 262, locals := 12 } : Room).cells ({ frames := 1, cells := 2, slots := 262, locals := 12 } : Room).slots (s₁.setTop (entryFrame m #[(.ref a1), (.int p2), (.int p3), (.ref a4), (.ref a5), (.ref a6)] 8))
  refine Done.step (fun t k => castTop (ef_1 m a1 p2 p3 a4 a5 a6) k) ?_
  show Done p e below s _ _ _ (s₁.setTop (mkF m 0 #[.val (.ref a1), .val (.int p2), .val (.int p3), .val (.ref a4), .val (.ref a5), .val (.ref a6), .unset, .unset] []))
  refine Done.step (fun t k => XS.aloadN X0.here hx rfl (hb hby d1_0) rfl rfl k) ?_
  show Done p e below s _ _ _ (s₁.setTop (mkF m 1 #[.val (.ref a1), .val (.int p2), .val (.int p3), .val (.ref a4), .val (.ref a5), .val (.ref a6), .unset, .unset] [(.ref a1)]))
  obtain ⟨T101, X101, e101, st101⟩ := initO X0 hx hZ hown (hw _ (List.mem_of_getElem? (i := 8) rfl)) (hw _ (List.mem_of_getElem? (i := 9) rfl)) (hw _ (List.mem_of_getElem? (i := 10) rfl)) e0 (g := (mkF m 1 #[.val (.ref a1), .val (.int p2), .val (.int p3), .val (.ref a4), .val (.ref a5), .val (.ref a6), .unset, .unset] [(.ref a1)])) rfl (by rw [hml]; rfl) rfl (hb hby d1_1) (by decide) (W := 0) (by show 2 * 0 + _ ≤ _; exact Nat.le_of_eq rfl) (by decide)
  refine Done.step st101 ?_
  show Done p e below s _ _ _ (T101.setTop (mkF m 4 #[.val (.ref a1), .val (.int p2), .val (.int p3), .val (.ref a4), .val (.ref a5), .val (.ref a6), .unset, .unset] []))
  refine Done.step (fun t k => XS.aloadN X101.here hx rfl (hb hby d1_4) rfl rfl k) ?_
  show Done p e below s _ _ _ (T101.setTop (mkF m 5 #[.val (.ref a1), .val (.int p2), .val (.int p3), .val (.ref a4), .val (.ref a5), .val (.ref a6), .unset, .unset] [(.ref a1)]))
  refine Done.step (fun t k => XS.iloadN X101.here hx rfl (hb hby d1_5) rfl k) ?_
  show Done p e below s _ _ _ (T101.setTop (mkF m 6 #[.val (.ref a1), .val (.int p2), .val (.int p3), .val (.ref a4), .val (.ref a5), .val (.ref a6), .unset, .unset] [(.int p2), (.ref a1)]))
  obtain ⟨T102, h102, X102, e102, W102, st102⟩ := putF X101 hx hZ hown (host := "") (Or.inl (hw _ (List.mem_of_getElem? (i := 11) rfl))) Via.refl e101 F_vertexCount E1 (Or.inr ⟨(hw _ (List.mem_of_getElem? (i := 12) rfl)), rfl, hnm⟩) (hw _ (List.mem_of_getElem? (i := 3) rfl)) (ty := .int) (by decide) rfl rfl (g := (mkF m 6 #[.val (.ref a1), .val (.int p2), .val (.int p3), .val (.ref a4), .val (.ref a5), .val (.ref a6), .unset, .unset] [(.int p2), (.ref a1)])) rfl rfl (hb hby d1_6)
  have f103 : Exa Z h102 a1 "com/example/dendrocover/dendrocover/Network" := E1.wr W102
  have f104 : Fld Z h102 a1 "com/example/dendrocover/dendrocover/Network" "vertexCount" "I" (.int p2) := F_vertexCount.same W102
  have f105 : Fld Z h102 a1 "com/example/dendrocover/dendrocover/Network" "roadCount" "I" (.int (0 : Int32)) := F_roadCount.other W102 (Or.inr (slot_ne (Or.inr (hw _ (List.mem_of_getElem? (i := 14) rfl))) (Or.inr (hw _ (List.mem_of_getElem? (i := 12) rfl))) (by decide) (t := .int) (t' := .int) (by decide) (by decide)))
  have f106 : Fld Z h102 a1 "com/example/dendrocover/dendrocover/Network" "firstEnd" "[I" .null := F_firstEnd.other W102 (Or.inr (slot_ne (Or.inr (hw _ (List.mem_of_getElem? (i := 16) rfl))) (Or.inr (hw _ (List.mem_of_getElem? (i := 12) rfl))) (by decide) (t := (.array .int)) (t' := .int) (by decide) (by decide)))
  have f107 : Fld Z h102 a1 "com/example/dendrocover/dendrocover/Network" "secondEnd" "[I" .null := F_secondEnd.other W102 (Or.inr (slot_ne (Or.inr (hw _ (List.mem_of_getElem? (i := 18) rfl))) (Or.inr (hw _ (List.mem_of_getElem? (i := 12) rfl))) (by decide) (t := (.array .int)) (t' := .int) (by decide) (by decide)))
  have f108 : Fld Z h102 a1 "com/example/dendrocover/dendrocover/Network" "length" "[I" .null := F_length.other W102 (Or.inr (slot_ne (Or.inr (hw _ (List.mem_of_getElem? (i := 20) rfl))) (Or.inr (hw _ (List.mem_of_getElem? (i := 12) rfl))) (by decide) (t := (.array .int)) (t' := .int) (by decide) (by decide)))
  have f109 : Fld Z h102 a1 "com/example/dendrocover/dendrocover/Network" "incidenceStart" "[I" .null := F_incidenceStart.other W102 (Or.inr (slot_ne (Or.inr (hw _ (List.mem_of_getElem? (i := 22) rfl))) (Or.inr (hw _ (List.mem_of_getElem? (i := 12) rfl))) (by decide) (t := (.array .int)) (t' := .int) (by decide) (by decide)))
  have f110 : Fld Z h102 a1 "com/example/dendrocover/dendrocover/Network" "incident" "[I" .null := F_incident.other W102 (Or.inr (slot_ne (Or.inr (hw _ (List.mem_of_getElem? (i := 24) rfl))) (Or.inr (hw _ (List.mem_of_getElem? (i := 12) rfl))) (by decide) (t := (.array .int)) (t' := .int) (by decide) (by decide)))
  have f111 : Ax Z h102 a4 .int (F.map Value.int) := A4.other W102 (Ne.symm ne_a1_a4)
  have f112 : Ax Z h102 a5 .int (S.map Value.int) := A5.other W102 (Ne.symm ne_a1_a5)
  have Z102 : n0 ≤ h102.size := Nat.le_trans Z0 (Keep.of_wr W102).1
  have N102 := Fr.snoc X102 N0 g1
  have K102 : Keep h0 h102 [a1] := (Keep.refl h0 [a1]).wr W102 (Or.inl (by simp))
  refine Done.step st102 ?_
  show Done p e below s _ _ _ (T102.setTop (mkF m 9 #[.val (.ref a1), .val (.int p2), .val (.int p3), .val (.ref a4), .val (.ref a5), .val (.ref a6), .unset, .unset] []))
  refine Done.step (fun t k => XS.aloadN X102.here hx rfl (hb hby d1_9) rfl rfl k) ?_
  show Done p e below s _ _ _ (T102.setTop (mkF m 10 #[.val (.ref a1), .val (.int p2), .val (.int p3), .val (.ref a4), .val (.ref a5), .val (.ref a6), .unset, .unset] [(.ref a1)]))
  refine Done.step (fun t k => XS.iloadN X102.here hx rfl (hb hby d1_10) rfl k) ?_
  show Done p e below s _ _ _ (T102.setTop (mkF m 11 #[.val (.ref a1), .val (.int p2), .val (.int p3), .val (.ref a4), .val (.ref a5), .val (.ref a6), .unset, .unset] [(.int p3), (.ref a1)]))
  obtain ⟨T113, h113, X113, e113, W113, st113⟩ := putF X102 hx hZ hown (host := "") (Or.inl (hw _ (List.mem_of_getElem? (i := 13) rfl))) Via.refl e102 f105 f103 (Or.inr ⟨(hw _ (List.mem_of_getElem? (i := 14) rfl)), rfl, hnm⟩) (hw _ (List.mem_of_getElem? (i := 3) rfl)) (ty := .int) (by decide) rfl rfl (g := (mkF m 11 #[.val (.ref a1), .val (.int p2), .val (.int p3), .val (.ref a4), .val (.ref a5), .val (.ref a6), .unset, .unset] [(.int p3), (.ref a1)])) rfl rfl (hb hby d1_11)
  have f114 : Exa Z h113 a1 "com/example/dendrocover/dendrocover/Network" := f103.wr W113
  have f115 : Fld Z h113 a1 "com/example/dendrocover/dendrocover/Network" "vertexCount" "I" (.int p2) := f104.other W113 (Or.inr (slot_ne (Or.inr (hw _ (List.mem_of_getElem? (i := 12) rfl))) (Or.inr (hw _ (List.mem_of_getElem? (i := 14) rfl))) (by decide) (t := .int) (t' := .int) (by decide) (by decide)))
  have f116 : Fld Z h113 a1 "com/example/dendrocover/dendrocover/Network" "roadCount" "I" (.int p3) := f105.same W113
  have f117 : Fld Z h113 a1 "com/example/dendrocover/dendrocover/Network" "firstEnd" "[I" .null := f106.other W113 (Or.inr (slot_ne (Or.inr (hw _ (List.mem_of_getElem? (i := 16) rfl))) (Or.inr (hw _ (List.mem_of_getElem? (i := 14) rfl))) (by decide) (t := (.array .int)) (t' := .int) (by decide) (by decide)))
  have f118 : Fld Z h113 a1 "com/example/dendrocover/dendrocover/Network" "secondEnd" "[I" .null := f107.other W113 (Or.inr (slot_ne (Or.inr (hw _ (List.mem_of_getElem? (i := 18) rfl))) (Or.inr (hw _ (List.mem_of_getElem? (i := 14) rfl))) (by decide) (t := (.array .int)) (t' := .int) (by decide) (by decide)))
  have f119 : Fld Z h113 a1 "com/example/dendrocover/dendrocover/Network" "length" "[I" .null := f108.other W113 (Or.inr (slot_ne (Or.inr (hw _ (List.mem_of_getElem? (i := 20) rfl))) (Or.inr (hw _ (List.mem_of_getElem? (i := 14) rfl))) (by decide) (t := (.array .int)) (t' := .int) (by decide) (by decide)))
  have f120 : Fld Z h113 a1 "com/example/dendrocover/dendrocover/Network" "incidenceStart" "[I" .null := f109.other W113 (Or.inr (slot_ne (Or.inr (hw _ (List.mem_of_getElem? (i := 22) rfl))) (Or.inr (hw _ (List.mem_of_getElem? (i := 14) rfl))) (by decide) (t := (.array .int)) (t' := .int) (by decide) (by decide)))
  have f121 : Fld Z h113 a1 "com/example/dendrocover/dendrocover/Network" "incident" "[I" .null := f110.other W113 (Or.inr (slot_ne (Or.inr (hw _ (List.mem_of_getElem? (i := 24) rfl))) (Or.inr (hw _ (List.mem_of_getElem? (i := 14) rfl))) (by decide) (t := (.array .int)) (t' := .int) (by decide) (by decide)))
  have f122 : Ax Z h113 a4 .int (F.map Value.int) := f111.other W113 (Ne.symm ne_a1_a4)
  have f123 : Ax Z h113 a5 .int (S.map Value.int) := f112.other W113 (Ne.symm ne_a1_a5)
  have Z113 : n0 ≤ h113.size := Nat.le_trans Z102 (Keep.of_wr W113).1
  have N113 := Fr.snoc X113 N102 g1
  have K113 : Keep h0 h113 [a1] := K102.wr W113 (Or.inl (by simp))
  refine Done.step st113 ?_
  show Done p e below s _ _ _ (T113.setTop (mkF m 14 #[.val (.ref a1), .val (.int p2), .val (.int p3), .val (.ref a4), .val (.ref a5), .val (.ref a6), .unset, .unset] []))
  refine Done.step (fun t k => XS.aloadN X113.here hx rfl (hb hby d1_14) rfl rfl k) ?_
  show Done p e below s _ _ _ (T113.setTop (mkF m 15 #[.val (.ref a1), .val (.int p2), .val (.int p3), .val (.ref a4), .val (.ref a5), .val (.ref a6), .unset, .unset] [(.ref a1)]))
  refine Done.step (fun t k => XS.aloadN X113.here hx rfl (hb hby d1_15) rfl rfl k) ?_
  show Done p e below s _ _ _ (T113.setTop (mkF m 16 #[.val (.ref a1), .val (.int p2), .val (.int p3), .val (.ref a4), .val (.ref a5), .val (.ref a6), .unset, .unset] [(.ref a4), (.ref a1)]))
  obtain ⟨T124, h124, X124, e124, W124, st124⟩ := putF X113 hx hZ hown (host := "") (Or.inl (hw _ (List.mem_of_getElem? (i := 15) rfl))) Via.refl e113 f117 f114 (Or.inr ⟨(hw _ (List.mem_of_getElem? (i := 16) rfl)), rfl, hnm⟩) (hw _ (List.mem_of_getElem? (i := 3) rfl)) (ty := (.array .int)) (by decide) rfl rfl (g := (mkF m 16 #[.val (.ref a1), .val (.int p2), .val (.int p3), .val (.ref a4), .val (.ref a5), .val (.ref a6), .unset, .unset] [(.ref a4), (.ref a1)])) rfl rfl (hb hby d1_16)
  have f125 : Exa Z h124 a1 "com/example/dendrocover/dendrocover/Network" := f114.wr W124
  have f126 : Fld Z h124 a1 "com/example/dendrocover/dendrocover/Network" "vertexCount" "I" (.int p2) := f115.other W124 (Or.inr (slot_ne (Or.inr (hw _ (List.mem_of_getElem? (i := 12) rfl))) (Or.inr (hw _ (List.mem_of_getElem? (i := 16) rfl))) (by decide) (t := .int) (t' := (.array .int)) (by decide) (by decide)))
  have f127 : Fld Z h124 a1 "com/example/dendrocover/dendrocover/Network" "roadCount" "I" (.int p3) := f116.other W124 (Or.inr (slot_ne (Or.inr (hw _ (List.mem_of_getElem? (i := 14) rfl))) (Or.inr (hw _ (List.mem_of_getElem? (i := 16) rfl))) (by decide) (t := .int) (t' := (.array .int)) (by decide) (by decide)))
  have f128 : Fld Z h124 a1 "com/example/dendrocover/dendrocover/Network" "firstEnd" "[I" (.ref a4) := f117.same W124
  have f129 : Fld Z h124 a1 "com/example/dendrocover/dendrocover/Network" "secondEnd" "[I" .null := f118.other W124 (Or.inr (slot_ne (Or.inr (hw _ (List.mem_of_getElem? (i := 18) rfl))) (Or.inr (hw _ (List.mem_of_getElem? (i := 16) rfl))) (by decide) (t := (.array .int)) (t' := (.array .int)) (by decide) (by decide)))
  have f130 : Fld Z h124 a1 "com/example/dendrocover/dendrocover/Network" "length" "[I" .null := f119.other W124 (Or.inr (slot_ne (Or.inr (hw _ (List.mem_of_getElem? (i := 20) rfl))) (Or.inr (hw _ (List.mem_of_getElem? (i := 16) rfl))) (by decide) (t := (.array .int)) (t' := (.array .int)) (by decide) (by decide)))
  have f131 : Fld Z h124 a1 "com/example/dendrocover/dendrocover/Network" "incidenceStart" "[I" .null := f120.other W124 (Or.inr (slot_ne (Or.inr (hw _ (List.mem_of_getElem? (i := 22) rfl))) (Or.inr (hw _ (List.mem_of_getElem? (i := 16) rfl))) (by decide) (t := (.array .int)) (t' := (.array .int)) (by decide) (by decide)))
  have f132 : Fld Z h124 a1 "com/example/dendrocover/dendrocover/Network" "incident" "[I" .null := f121.other W124 (Or.inr (slot_ne (Or.inr (hw _ (List.mem_of_getElem? (i := 24) rfl))) (Or.inr (hw _ (List.mem_of_getElem? (i := 16) rfl))) (by decide) (t := (.array .int)) (t' := (.array .int)) (by decide) (by decide)))
  have f133 : Ax Z h124 a4 .int (F.map Value.int) := f122.other W124 (Ne.symm ne_a1_a4)
  have f134 : Ax Z h124 a5 .int (S.map Value.int) := f123.other W124 (Ne.symm ne_a1_a5)
  have Z124 : n0 ≤ h124.size := Nat.le_trans Z113 (Keep.of_wr W124).1
  have N124 := Fr.snoc X124 N113 g1
  have K124 : Keep h0 h124 [a1] := K113.wr W124 (Or.inl (by simp))
  refine Done.step st124 ?_
  show Done p e below s _ _ _ (T124.setTop (mkF m 19 #[.val (.ref a1), .val (.int p2), .val (.int p3), .val (.ref a4), .val (.ref a5), .val (.ref a6), .unset, .unset] []))
  refine Done.step (fun t k => XS.aloadN X124.here hx rfl (hb hby d1_19) rfl rfl k) ?_
  show Done p e below s _ _ _ (T124.setTop (mkF m 20 #[.val (.ref a1), .val (.int p2), .val (.int p3), .val (.ref a4), .val (.ref a5), .val (.ref a6), .unset, .unset] [(.ref a1)]))
  refine Done.step (fun t k => XS.aload X124.here hx rfl (hb hby d1_20) rfl rfl k) ?_
  show Done p e below s _ _ _ (T124.setTop (mkF m 22 #[.val (.ref a1), .val (.int p2), .val (.int p3), .val (.ref a4), .val (.ref a5), .val (.ref a6), .unset, .unset] [(.ref a5), (.ref a1)]))
  obtain ⟨T135, h135, X135, e135, W135, st135⟩ := putF X124 hx hZ hown (host := "") (Or.inl (hw _ (List.mem_of_getElem? (i := 17) rfl))) Via.refl e124 f129 f125 (Or.inr ⟨(hw _ (List.mem_of_getElem? (i := 18) rfl)), rfl, hnm⟩) (hw _ (List.mem_of_getElem? (i := 3) rfl)) (ty := (.array .int)) (by decide) rfl rfl (g := (mkF m 22 #[.val (.ref a1), .val (.int p2), .val (.int p3), .val (.ref a4), .val (.ref a5), .val (.ref a6), .unset, .unset] [(.ref a5), (.ref a1)])) rfl rfl (hb hby d1_22)
  have f136 : Exa Z h135 a1 "com/example/dendrocover/dendrocover/Network" := f125.wr W135
  have f137 : Fld Z h135 a1 "com/example/dendrocover/dendrocover/Network" "vertexCount" "I" (.int p2) := f126.other W135 (Or.inr (slot_ne (Or.inr (hw _ (List.mem_of_getElem? (i := 12) rfl))) (Or.inr (hw _ (List.mem_of_getElem? (i := 18) rfl))) (by decide) (t := .int) (t' := (.array .int)) (by decide) (by decide)))
  have f138 : Fld Z h135 a1 "com/example/dendrocover/dendrocover/Network" "roadCount" "I" (.int p3) := f127.other W135 (Or.inr (slot_ne (Or.inr (hw _ (List.mem_of_getElem? (i := 14) rfl))) (Or.inr (hw _ (List.mem_of_getElem? (i := 18) rfl))) (by decide) (t := .int) (t' := (.array .int)) (by decide) (by decide)))
  have f139 : Fld Z h135 a1 "com/example/dendrocover/dendrocover/Network" "firstEnd" "[I" (.ref a4) := f128.other W135 (Or.inr (slot_ne (Or.inr (hw _ (List.mem_of_getElem? (i := 16) rfl))) (Or.inr (hw _ (List.mem_of_getElem? (i := 18) rfl))) (by decide) (t := (.array .int)) (t' := (.array .int)) (by decide) (by decide)))
  have f140 : Fld Z h135 a1 "com/example/dendrocover/dendrocover/Network" "secondEnd" "[I" (.ref a5) := f129.same W135
  have f141 : Fld Z h135 a1 "com/example/dendrocover/dendrocover/Network" "length" "[I" .null := f130.other W135 (Or.inr (slot_ne (Or.inr (hw _ (List.mem_of_getElem? (i := 20) rfl))) (Or.inr (hw _ (List.mem_of_getElem? (i := 18) rfl))) (by decide) (t := (.array .int)) (t' := (.array .int)) (by decide) (by decide)))
  have f142 : Fld Z h135 a1 "com/example/dendrocover/dendrocover/Network" "incidenceStart" "[I" .null := f131.other W135 (Or.inr (slot_ne (Or.inr (hw _ (List.mem_of_getElem? (i := 22) rfl))) (Or.inr (hw _ (List.mem_of_getElem? (i := 18) rfl))) (by decide) (t := (.array .int)) (t' := (.array .int)) (by decide) (by decide)))
  have f143 : Fld Z h135 a1 "com/example/dendrocover/dendrocover/Network" "incident" "[I" .null := f132.other W135 (Or.inr (slot_ne (Or.inr (hw _ (List.mem_of_getElem? (i := 24) rfl))) (Or.inr (hw _ (List.mem_of_getElem? (i := 18) rfl))) (by decide) (t := (.array .int)) (t' := (.array .int)) (by decide) (by decide)))
  have f144 : Ax Z h135 a4 .int (F.map Value.int) := f133.other W135 (Ne.symm ne_a1_a4)
  have f145 : Ax Z h135 a5 .int (S.map Value.int) := f134.other W135 (Ne.symm ne_a1_a5)
  have Z135 : n0 ≤ h135.size := Nat.le_trans Z124 (Keep.of_wr W135).1
  have N135 := Fr.snoc X135 N124 g1
  have K135 : Keep h0 h135 [a1] := K124.wr W135 (Or.inl (by simp))
  refine Done.step st135 ?_
  show Done p e below s _ _ _ (T135.setTop (mkF m 25 #[.val (.ref a1), .val (.int p2), .val (.int p3), .val (.ref a4), .val (.ref a5), .val (.ref a6), .unset, .unset] []))
  refine Done.step (fun t k => XS.aloadN X135.here hx rfl (hb hby d1_25) rfl rfl k) ?_
  show Done p e below s _ _ _ (T135.setTop (mkF m 26 #[.val (.ref a1), .val (.int p2), .val (.int p3), .val (.ref a4), .val (.ref a5), .val (.ref a6), .unset, .unset] [(.ref a1)]))
  refine Done.step (fun t k => XS.aload X135.here hx rfl (hb hby d1_26) rfl rfl k) ?_
  show Done p e below s _ _ _ (T135.setTop (mkF m 28 #[.val (.ref a1), .val (.int p2), .val (.int p3), .val (.ref a4), .val (.ref a5), .val (.ref a6), .unset, .unset] [(.ref a6), (.ref a1)]))
  obtain ⟨T146, h146, X146, e146, W146, st146⟩ := putF X135 hx hZ hown (host := "") (Or.inl (hw _ (List.mem_of_getElem? (i := 19) rfl))) Via.refl e135 f141 f136 (Or.inr ⟨(hw _ (List.mem_of_getElem? (i := 20) rfl)), rfl, hnm⟩) (hw _ (List.mem_of_getElem? (i := 3) rfl)) (ty := (.array .int)) (by decide) rfl rfl (g := (mkF m 28 #[.val (.ref a1), .val (.int p2), .val (.int p3), .val (.ref a4), .val (.ref a5), .val (.ref a6), .unset, .unset] [(.ref a6), (.ref a1)])) rfl rfl (hb hby d1_28)
  have f147 : Exa Z h146 a1 "com/example/dendrocover/dendrocover/Network" := f136.wr W146
  have f148 : Fld Z h146 a1 "com/example/dendrocover/dendrocover/Network" "vertexCount" "I" (.int p2) := f137.other W146 (Or.inr (slot_ne (Or.inr (hw _ (List.mem_of_getElem? (i := 12) rfl))) (Or.inr (hw _ (List.mem_of_getElem? (i := 20) rfl))) (by decide) (t := .int) (t' := (.array .int)) (by decide) (by decide)))
  have f149 : Fld Z h146 a1 "com/example/dendrocover/dendrocover/Network" "roadCount" "I" (.int p3) := f138.other W146 (Or.inr (slot_ne (Or.inr (hw _ (List.mem_of_getElem? (i := 14) rfl))) (Or.inr (hw _ (List.mem_of_getElem? (i := 20) rfl))) (by decide) (t := .int) (t' := (.array .int)) (by decide) (by decide)))
  have f150 : Fld Z h146 a1 "com/example/dendrocover/dendrocover/Network" "firstEnd" "[I" (.ref a4) := f139.other W146 (Or.inr (slot_ne (Or.inr (hw _ (List.mem_of_getElem? (i := 16) rfl))) (Or.inr (hw _ (List.mem_of_getElem? (i := 20) rfl))) (by decide) (t := (.array .int)) (t' := (.array .int)) (by decide) (by decide)))
  have f151 : Fld Z h146 a1 "com/example/dendrocover/dendrocover/Network" "secondEnd" "[I" (.ref a5) := f140.other W146 (Or.inr (slot_ne (Or.inr (hw _ (List.mem_of_getElem? (i := 18) rfl))) (Or.inr (hw _ (List.mem_of_getElem? (i := 20) rfl))) (by decide) (t := (.array .int)) (t' := (.array .int)) (by decide) (by decide)))
  have f152 : Fld Z h146 a1 "com/example/dendrocover/dendrocover/Network" "length" "[I" (.ref a6) := f141.same W146
  have f153 : Fld Z h146 a1 "com/example/dendrocover/dendrocover/Network" "incidenceStart" "[I" .null := f142.other W146 (Or.inr (slot_ne (Or.inr (hw _ (List.mem_of_getElem? (i := 22) rfl))) (Or.inr (hw _ (List.mem_of_getElem? (i := 20) rfl))) (by decide) (t := (.array .int)) (t' := (.array .int)) (by decide) (by decide)))
  have f154 : Fld Z h146 a1 "com/example/dendrocover/dendrocover/Network" "incident" "[I" .null := f143.other W146 (Or.inr (slot_ne (Or.inr (hw _ (List.mem_of_getElem? (i := 24) rfl))) (Or.inr (hw _ (List.mem_of_getElem? (i := 20) rfl))) (by decide) (t := (.array .int)) (t' := (.array .int)) (by decide) (by decide)))
  have f155 : Ax Z h146 a4 .int (F.map Value.int) := f144.other W146 (Ne.symm ne_a1_a4)
  have f156 : Ax Z h146 a5 .int (S.map Value.int) := f145.other W146 (Ne.symm ne_a1_a5)
  have Z146 : n0 ≤ h146.size := Nat.le_trans Z135 (Keep.of_wr W146).1
  have N146 := Fr.snoc X146 N135 g1
  have K146 : Keep h0 h146 [a1] := K135.wr W146 (Or.inl (by simp))
  refine Done.step st146 ?_
  show Done p e below s _ _ _ (T146.setTop (mkF m 31 #[.val (.ref a1), .val (.int p2), .val (.int p3), .val (.ref a4), .val (.ref a5), .val (.ref a6), .unset, .unset] []))
  refine Done.step (fun t k => XS.aloadN X146.here hx rfl (hb hby d1_31) rfl rfl k) ?_
  show Done p e below s _ _ _ (T146.setTop (mkF m 32 #[.val (.ref a1), .val (.int p2), .val (.int p3), .val (.ref a4), .val (.ref a5), .val (.ref a6), .unset, .unset] [(.ref a1)]))
  refine Done.step (fun t k => XS.iloadN X146.here hx rfl (hb hby d1_32) rfl k) ?_
  show Done p e below s _ _ _ (T146.setTop (mkF m 33 #[.val (.ref a1), .val (.int p2), .val (.int p3), .val (.ref a4), .val (.ref a5), .val (.ref a6), .unset, .unset] [(.int p2), (.ref a1)]))
  refine Done.step (fun t k => XS.iconst X146.here hx rfl (hb hby d1_33) k) ?_
  show Done p e below s _ _ _ (T146.setTop (mkF m 34 #[.val (.ref a1), .val (.int p2), .val (.int p3), .val (.ref a4), .val (.ref a5), .val (.ref a6), .unset, .unset] [(.int (2 : Int32)), (.int p2), (.ref a1)]))
  refine Done.step (fun t k => XS.iadd X146.here hx rfl (hb hby d1_34) rfl k) ?_
  show Done p e below s _ _ _ (T146.setTop (mkF m 35 #[.val (.ref a1), .val (.int p2), .val (.int p3), .val (.ref a4), .val (.ref a5), .val (.ref a6), .unset, .unset] [(.int (p2 + (2 : Int32))), (.ref a1)]))
  have hp2 : (p2 + (2 : Int32)).toInt = vv + 2 := by rw [own_plus (d := 2) rfl (by omega) (by omega), hv]
  have hpc := own_clamp (x := p2 + (2 : Int32)) (by omega)
  obtain ⟨T157, h157, k157, X157, e157, E157, A157, B157, st157⟩ := newPE X146 hx hZ (hw _ (List.mem_of_getElem? (i := 0) rfl)) e146 (g := (mkF m 35 #[.val (.ref a1), .val (.int p2), .val (.int p3), .val (.ref a4), .val (.ref a5), .val (.ref a6), .unset, .unset] [(.int (p2 + (2 : Int32))), (.ref a1)])) rfl (hb hby d1_35) rfl (own_nneg (by omega)) (cap := 258) (by omega) (by decide) (by decide) (by decide) (ad := "[I") (by decide)
  obtain ⟨b157, gq157⟩ : ∃ z, z = h146.size := ⟨_, rfl⟩
  rw [← gq157] at A157 B157 st157
  have ne158 : a1 ≠ b157 := Nat.ne_of_lt (Nat.lt_of_lt_of_le f147.lt (Nat.le_of_eq gq157.symm))
  have ne159 : a4 ≠ b157 := Nat.ne_of_lt (Nat.lt_of_lt_of_le f155.lt (Nat.le_of_eq gq157.symm))
  have ne160 : a5 ≠ b157 := Nat.ne_of_lt (Nat.lt_of_lt_of_le f156.lt (Nat.le_of_eq gq157.symm))
  have f161 : Exa Z h157 a1 "com/example/dendrocover/dendrocover/Network" := f147.ext E157
  have f162 : Fld Z h157 a1 "com/example/dendrocover/dendrocover/Network" "vertexCount" "I" (.int p2) := f148.ext E157
  have f163 : Fld Z h157 a1 "com/example/dendrocover/dendrocover/Network" "roadCount" "I" (.int p3) := f149.ext E157
  have f164 : Fld Z h157 a1 "com/example/dendrocover/dendrocover/Network" "firstEnd" "[I" (.ref a4) := f150.ext E157
  have f165 : Fld Z h157 a1 "com/example/dendrocover/dendrocover/Network" "secondEnd" "[I" (.ref a5) := f151.ext E157
  have f166 : Fld Z h157 a1 "com/example/dendrocover/dendrocover/Network" "length" "[I" (.ref a6) := f152.ext E157
  have f167 : Fld Z h157 a1 "com/example/dendrocover/dendrocover/Network" "incidenceStart" "[I" .null := f153.ext E157
  have f168 : Fld Z h157 a1 "com/example/dendrocover/dendrocover/Network" "incident" "[I" .null := f154.ext E157
  have f169 : Ax Z h157 a4 .int (F.map Value.int) := f155.ext E157
  have f170 : Ax Z h157 a5 .int (S.map Value.int) := f156.ext E157
  have g_b157 : n0 ≤ b157 := Nat.le_trans Z146 (Nat.le_of_eq gq157.symm)
  have sz_b157 : h0.size ≤ b157 := Nat.le_trans K146.1 (Nat.le_of_eq gq157.symm)
  have Z157 : n0 ≤ h157.size := Nat.le_trans Z146 E157.1
  have K157 : Keep h0 h157 [a1] := K146.ext E157
  have f171 : Ax Z h157 b157 .int (List.replicate (vv + 2) (.int (0 : Int32))) := Ax.new (ty := .int) (i := (vv + 2)) A157 (by omega)
  refine Done.step st157 ?_
  show Done p e below s _ _ _ (T157.setTop (mkF m 37 #[.val (.ref a1), .val (.int p2), .val (.int p3), .val (.ref a4), .val (.ref a5), .val (.ref a6), .unset, .unset] [(.ref b157), (.ref a1)]))
  obtain ⟨T172, h172, X172, e172, W172, st172⟩ := putF X157 hx hZ hown (host := "") (Or.inl (hw _ (List.mem_of_getElem? (i := 21) rfl))) Via.refl e157 f167 f161 (Or.inr ⟨(hw _ (List.mem_of_getElem? (i := 22) rfl)), rfl, hnm⟩) (hw _ (List.mem_of_getElem? (i := 3) rfl)) (ty := (.array .int)) (by decide) rfl rfl (g := (mkF m 37 #[.val (.ref a1), .val (.int p2), .val (.int p3), .val (.ref a4), .val (.ref a5), .val (.ref a6), .unset, .unset] [(.ref b157), (.ref a1)])) rfl rfl (hb hby d1_37)
  have f173 : Exa Z h172 a1 "com/example/dendrocover/dendrocover/Network" := f161.wr W172
  have f174 : Fld Z h172 a1 "com/example/dendrocover/dendrocover/Network" "vertexCount" "I" (.int p2) := f162.other W172 (Or.inr (slot_ne (Or.inr (hw _ (List.mem_of_getElem? (i := 12) rfl))) (Or.inr (hw _ (List.mem_of_getElem? (i := 22) rfl))) (by decide) (t := .int) (t' := (.array .int)) (by decide) (by decide)))
  have f175 : Fld Z h172 a1 "com/example/dendrocover/dendrocover/Network" "roadCount" "I" (.int p3) := f163.other W172 (Or.inr (slot_ne (Or.inr (hw _ (List.mem_of_getElem? (i := 14) rfl))) (Or.inr (hw _ (List.mem_of_getElem? (i := 22) rfl))) (by decide) (t := .int) (t' := (.array .int)) (by decide) (by decide)))
  have f176 : Fld Z h172 a1 "com/example/dendrocover/dendrocover/Network" "firstEnd" "[I" (.ref a4) := f164.other W172 (Or.inr (slot_ne (Or.inr (hw _ (List.mem_of_getElem? (i := 16) rfl))) (Or.inr (hw _ (List.mem_of_getElem? (i := 22) rfl))) (by decide) (t := (.array .int)) (t' := (.array .int)) (by decide) (by decide)))
  have f177 : Fld Z h172 a1 "com/example/dendrocover/dendrocover/Network" "secondEnd" "[I" (.ref a5) := f165.other W172 (Or.inr (slot_ne (Or.inr (hw _ (List.mem_of_getElem? (i := 18) rfl))) (Or.inr (hw _ (List.mem_of_getElem? (i := 22) rfl))) (by decide) (t := (.array .int)) (t' := (.array .int)) (by decide) (by decide)))
  have f178 : Fld Z h172 a1 "com/example/dendrocover/dendrocover/Network" "length" "[I" (.ref a6) := f166.other W172 (Or.inr (slot_ne (Or.inr (hw _ (List.mem_of_getElem? (i := 20) rfl))) (Or.inr (hw _ (List.mem_of_getElem? (i := 22) rfl))) (by decide) (t := (.array .int)) (t' := (.array .int)) (by decide) (by decide)))
  have f179 : Fld Z h172 a1 "com/example/dendrocover/dendrocover/Network" "incidenceStart" "[I" (.ref b157) := f167.same W172
  have f180 : Fld Z h172 a1 "com/example/dendrocover/dendrocover/Network" "incident" "[I" .null := f168.other W172 (Or.inr (slot_ne (Or.inr (hw _ (List.mem_of_getElem? (i := 24) rfl))) (Or.inr (hw _ (List.mem_of_getElem? (i := 22) rfl))) (by decide) (t := (.array .int)) (t' := (.array .int)) (by decide) (by decide)))
  have f181 : Ax Z h172 a4 .int (F.map Value.int) := f169.other W172 (Ne.symm ne_a1_a4)
  have f182 : Ax Z h172 a5 .int (S.map Value.int) := f170.other W172 (Ne.symm ne_a1_a5)
  have f183 : Exa Z h172 b157 "[I" := B157.wr W172
  have f184 : Ax Z h172 b157 .int (List.replicate (vv + 2) (.int (0 : Int32))) := f171.other W172 (Ne.symm ne158)
  have Z172 : n0 ≤ h172.size := Nat.le_trans Z157 (Keep.of_wr W172).1
  have N172 := Fr.snoc X172 N146 g1
  have K172 : Keep h0 h172 [a1] := K157.wr W172 (Or.inl (by simp))
  refine Done.step st172 ?_
  show Done p e below s _ _ _ (T172.setTop (mkF m 40 #[.val (.ref a1), .val (.int p2), .val (.int p3), .val (.ref a4), .val (.ref a5), .val (.ref a6), .unset, .unset] []))
  refine Done.step (fun t k => XS.iconst X172.here hx rfl (hb hby d1_40) k) ?_
  show Done p e below s _ _ _ (T172.setTop (mkF m 41 #[.val (.ref a1), .val (.int p2), .val (.int p3), .val (.ref a4), .val (.ref a5), .val (.ref a6), .unset, .unset] [(.int (1 : Int32))]))
  refine Done.step (fun t k => XS.istore X172.here hx rfl (hb hby d1_41) rfl (l' := #[.val (.ref a1), .val (.int p2), .val (.int p3), .val (.ref a4), .val (.ref a5), .val (.ref a6), .val (.int (1 : Int32)), .unset]) rfl k) ?_
  show Done p e below s _ _ _ (T172.setTop (mkF m 43 #[.val (.ref a1), .val (.int p2), .val (.int p3), .val (.ref a4), .val (.ref a5), .val (.ref a6), .val (.int (1 : Int32)), .unset] []))
  have hsv : SV (List.replicate (vv + 2) (0 : Int32)) (fun j => cE (fv F) (fv S) 0 j) := fun j y hy hj => by
    rw [List.getElem?_replicate] at hy; split at hy
    · cases hy; rfl
    · cases hy
  exact lp43 a1 p2 p3 a4 a5 a6 F S nn vv b157 hx hZ hw hby hml hown hlk hret hnm g1 hv hv2 hn hn2 hF hS hf hs g_b157 sz_b157 ne_a1_a4 ne_a1_a5 ne158 ne159 ne160 (nn + 1)  T172 _ h172 (List.replicate (vv + 2) (0 : Int32)) (1 : Int32) 0 X172 N172 Z172 e172 K172 f173 f175 f176 f177 f178 f179 f180 f181 f182 (own_rep f184) (List.length_replicate) (by omega) rfl (Nat.zero_le _) hsv
theorem d3_0 : decode prog_20_method_8_code 0 = .ok (.aload_n 0, 1) := by decide +kernel
theorem d3_1 : decode prog_20_method_8_code 1 = .ok (.getfield 16, 3) := by decide +kernel
theorem d3_4 : decode prog_20_method_8_code 4 = .ok (.iload_n 1, 1) := by decide +kernel
theorem d3_5 : decode prog_20_method_8_code 5 = .ok (.iaload, 1) := by decide +kernel
theorem d3_6 : decode prog_20_method_8_code 6 = .ok (.iload_n 2, 1) := by decide +kernel
theorem d3_7 : decode prog_20_method_8_code 7 = .ok (.if_icmp .ne 12, 3) := by decide +kernel
theorem d3_10 : decode prog_20_method_8_code 10 = .ok (.aload_n 0, 1) := by decide +kernel
theorem d3_11 : decode prog_20_method_8_code 11 = .ok (.getfield 20, 3) := by decide +kernel
theorem d3_14 : decode prog_20_method_8_code 14 = .ok (.iload_n 1, 1) := by decide +kernel
theorem d3_15 : decode prog_20_method_8_code 15 = .ok (.iaload, 1) := by decide +kernel
theorem d3_16 : decode prog_20_method_8_code 16 = .ok (.goto 9, 3) := by decide +kernel
theorem d3_19 : decode prog_20_method_8_code 19 = .ok (.aload_n 0, 1) := by decide +kernel
theorem d3_20 : decode prog_20_method_8_code 20 = .ok (.getfield 16, 3) := by decide +kernel
theorem d3_23 : decode prog_20_method_8_code 23 = .ok (.iload_n 1, 1) := by decide +kernel
theorem d3_24 : decode prog_20_method_8_code 24 = .ok (.iaload, 1) := by decide +kernel
theorem d3_25 : decode prog_20_method_8_code 25 = .ok (.ireturn, 1) := by decide +kernel
def OE (x1 y1 p3 : Int32) : Int32 := (if x1 = p3 then y1
  else x1)
theorem pn_3 : plainName "com/example/dendrocover/dendrocover/Network" = true := by first | (simp [plainName, overriddenIn]; done) | decide +kernel
theorem ef_3 (m : MethodId) (a1 : Addr) (p2 : Int32) (p3 : Int32) : entryFrame m #[(.ref a1), (.int p2), (.int p3)] 3 = mkF m 0 #[.val (.ref a1), .val (.int p2), .val (.int p3)] [] := by first | (simp [entryFrame, mkF, argsToLocals, Value.category]; done) | rfl
def Qrm3 (Z : State) (a1 : Addr) (p2 : Int32) (p3 : Int32) (a4 a5 : Addr) (F S : List Int32) (x1 y1 : Int32) (h0 : Heap) (n0 : Nat) : Option Value → Heap → List Loc → Prop := fun v h L => v = some (.int (OE x1 y1 p3)) ∧ Fr n0 L ∧ h = h0
set_option maxRecDepth 65536 in
set_option maxHeartbeats 40000000 in
theorem rm3 (l : Launch) (Z : State) (a0 : Array Value) (hw : ∀ d ∈ tables_1, d.before a0 Z = true) (ws : List Jvm.Cond) (a1 : Addr) (p2 : Int32) (p3 : Int32) (a4 a5 : Addr) (F S : List Int32) (x1 y1 : Int32) (h0 : Heap) (n0 : Nat) (Z0 : n0 ≤ h0.size) (F1 : Fld Z h0 a1 "com/example/dendrocover/dendrocover/Network" "firstEnd" "[I" (.ref a4)) (F2 : Fld Z h0 a1 "com/example/dendrocover/dendrocover/Network" "secondEnd" "[I" (.ref a5)) (A4 : Ax Z h0 a4 .int (F.map Value.int)) (A5 : Ax Z h0 a5 .int (S.map Value.int)) (hp : ¬ p2 < 0) (h1 : F[p2.toNatClampNeg]? = some x1) (h2 : S[p2.toNatClampNeg]? = some y1) :
    MetFree l (⟨"com/example/dendrocover/dendrocover/Network", "otherEnd", "(II)I"⟩ : MethodName) (head1 (Jvm.Cond.code (⟨"com/example/dendrocover/dendrocover/Network", "otherEnd", "(II)I"⟩ : MethodName) prog_20_method_8_code 3 (some .int) :: ws) ({ frames := 0, cells := 0, slots := 0, locals := 0 } : Room)) (fun a U => a = #[(.ref a1), (.int p2), (.int p3)] ∧ Z.Warmed39 U.vm ∧ U.heap = h0) (fun _ _ _ _ _ => True) (fun _ U o U' => ∃ v L, o = .returned v ∧ Qrm3 Z a1 p2 p3 a4 a5 F S x1 y1 h0 n0 v U'.heap L ∧ FrameEnd U o U' L ({ frames := 0, cells := 0, slots := 0, locals := 0 } : Room).cells ({ frames := 0, cells := 0, slots := 0, locals := 0 } : Room).slots) := by
  refine MetFree.of_bodySF (plainFor_of_name pn_3) hisR ?_
  intro p e s m args below meth c s₁ Bd hml0 hP hK
  obtain ⟨rfl, hZ, hh⟩ := hP
  have hx := Bd.exec
  have hby := Bd.bytes
  have hml : c.maxLocals = 3 := hml0
  have hown : s.vm.findClass "com/example/dendrocover/dendrocover/Network" = some m.cls := findClass_of_methodNamed Bd.named
  have hnm := (name_of_methodNamed Bd.named Bd.method).1
  have hlk : meth.locks = false := BodyLoose.notSynchronized Bd
  have hret := Bd.returns
  have X0 : Stand p l e ({ frames := 0, cells := 0, slots := 0, locals := 0 } : Room) s m #[(.ref a1), (.int p2), (.int p3)] below meth c s₁ [] 0 0 := Stand.of_body Bd
  have e0 : s₁.heap = h0 := by rw [← hh, Bd.state]; rfl
  have N0 := Fr.nil n0
  show Done p e below s (Qrm3 Z a1 p2 p3 a4 a5 F S x1 y1 h0 n0) ({ frames := 0, cells := 0, slots := 0, locals := 0 } : Room).cells ({ frames := 0, cells := 0, slots := 0, locals := 0 } : Room).slots (s₁.setTop (entryFrame m #[(.ref a1), (.int p2), (.int p3)] 3))
  refine Done.step (fun t k => castTop (ef_3 m a1 p2 p3) k) ?_
  show Done p e below s _ _ _ (s₁.setTop (mkF m 0 #[.val (.ref a1), .val (.int p2), .val (.int p3)] []))
  refine Done.step (fun t k => XS.aloadN X0.here hx rfl (hb hby d3_0) rfl rfl k) ?_
  show Done p e below s _ _ _ (s₁.setTop (mkF m 1 #[.val (.ref a1), .val (.int p2), .val (.int p3)] [(.ref a1)]))
  obtain ⟨T101, X101, e101, st101⟩ := getF X0 hx hZ hown (host := "") (Or.inl (hw _ (List.mem_of_getElem? (i := 15) rfl))) Via.refl e0 F1 (g := (mkF m 1 #[.val (.ref a1), .val (.int p2), .val (.int p3)] [(.ref a1)])) rfl rfl (hb hby d3_1)
  refine Done.step st101 ?_
  show Done p e below s _ _ _ (T101.setTop (mkF m 4 #[.val (.ref a1), .val (.int p2), .val (.int p3)] [(.ref a4)]))
  refine Done.step (fun t k => XS.iloadN X101.here hx rfl (hb hby d3_4) rfl k) ?_
  show Done p e below s _ _ _ (T101.setTop (mkF m 5 #[.val (.ref a1), .val (.int p2), .val (.int p3)] [(.int p2), (.ref a4)]))
  refine Done.step (ldI X101 hx hZ e101 A4 (j := p2) (x := (.int x1)) hp (by rw [List.getElem?_map, h1]; rfl) (g := (mkF m 5 #[.val (.ref a1), .val (.int p2), .val (.int p3)] [(.int p2), (.ref a4)])) rfl rfl (hb hby d3_5)) ?_
  show Done p e below s _ _ _ (T101.setTop (mkF m 6 #[.val (.ref a1), .val (.int p2), .val (.int p3)] [(.int x1)]))
  refine Done.step (fun t k => XS.iloadN X101.here hx rfl (hb hby d3_6) rfl k) ?_
  show Done p e below s _ _ _ (T101.setTop (mkF m 7 #[.val (.ref a1), .val (.int p2), .val (.int p3)] [(.int p3), (.int x1)]))
  by_cases c1 : x1 = p3
  · refine Done.step (fun t k => XS.icmpNo X101.here hx rfl (hb hby d3_7) rfl (teq c1).2 k) ?_
    show Done p e below s _ _ _ (T101.setTop (mkF m 10 #[.val (.ref a1), .val (.int p2), .val (.int p3)] []))
    refine Done.step (fun t k => XS.aloadN X101.here hx rfl (hb hby d3_10) rfl rfl k) ?_
    show Done p e below s _ _ _ (T101.setTop (mkF m 11 #[.val (.ref a1), .val (.int p2), .val (.int p3)] [(.ref a1)]))
    obtain ⟨T102, X102, e102, st102⟩ := getF X101 hx hZ hown (host := "") (Or.inl (hw _ (List.mem_of_getElem? (i := 17) rfl))) Via.refl e101 F2 (g := (mkF m 11 #[.val (.ref a1), .val (.int p2), .val (.int p3)] [(.ref a1)])) rfl rfl (hb hby d3_11)
    refine Done.step st102 ?_
    show Done p e below s _ _ _ (T102.setTop (mkF m 14 #[.val (.ref a1), .val (.int p2), .val (.int p3)] [(.ref a5)]))
    refine Done.step (fun t k => XS.iloadN X102.here hx rfl (hb hby d3_14) rfl k) ?_
    show Done p e below s _ _ _ (T102.setTop (mkF m 15 #[.val (.ref a1), .val (.int p2), .val (.int p3)] [(.int p2), (.ref a5)]))
    refine Done.step (ldI X102 hx hZ e102 A5 (j := p2) (x := (.int y1)) hp (by rw [List.getElem?_map, h2]; rfl) (g := (mkF m 15 #[.val (.ref a1), .val (.int p2), .val (.int p3)] [(.int p2), (.ref a5)])) rfl rfl (hb hby d3_15)) ?_
    show Done p e below s _ _ _ (T102.setTop (mkF m 16 #[.val (.ref a1), .val (.int p2), .val (.int p3)] [(.int y1)]))
    refine Done.step (fun t k => XS.goto X102.here hx rfl (pc0 := 16) (pc' := 25) rfl (hb hby d3_16) (by decide) (by decide) k) ?_
    show Done p e below s _ _ _ (T102.setTop (mkF m 25 #[.val (.ref a1), .val (.int p2), .val (.int p3)] [(.int y1)]))
    exact Done.int X102 hx hlk hret (hb hby d3_25) (by decide) (by decide) ⟨by rw [show OE x1 y1 p3 = y1 from by unfold OE; rw [if_pos c1]] <;> rfl, N0, e102⟩
  · refine Done.step (fun t k => XS.icmpYes X101.here hx rfl (pc0 := 7) (pc' := 19) rfl (hb hby d3_7) rfl (feq c1).2 (by decide) (by decide) k) ?_
    show Done p e below s _ _ _ (T101.setTop (mkF m 19 #[.val (.ref a1), .val (.int p2), .val (.int p3)] []))
    refine Done.step (fun t k => XS.aloadN X101.here hx rfl (hb hby d3_19) rfl rfl k) ?_
    show Done p e below s _ _ _ (T101.setTop (mkF m 20 #[.val (.ref a1), .val (.int p2), .val (.int p3)] [(.ref a1)]))
    obtain ⟨T103, X103, e103, st103⟩ := getF X101 hx hZ hown (host := "") (Or.inl (hw _ (List.mem_of_getElem? (i := 15) rfl))) Via.refl e101 F1 (g := (mkF m 20 #[.val (.ref a1), .val (.int p2), .val (.int p3)] [(.ref a1)])) rfl rfl (hb hby d3_20)
    refine Done.step st103 ?_
    show Done p e below s _ _ _ (T103.setTop (mkF m 23 #[.val (.ref a1), .val (.int p2), .val (.int p3)] [(.ref a4)]))
    refine Done.step (fun t k => XS.iloadN X103.here hx rfl (hb hby d3_23) rfl k) ?_
    show Done p e below s _ _ _ (T103.setTop (mkF m 24 #[.val (.ref a1), .val (.int p2), .val (.int p3)] [(.int p2), (.ref a4)]))
    refine Done.step (ldI X103 hx hZ e103 A4 (j := p2) (x := (.int x1)) hp (by rw [List.getElem?_map, h1]; rfl) (g := (mkF m 24 #[.val (.ref a1), .val (.int p2), .val (.int p3)] [(.int p2), (.ref a4)])) rfl rfl (hb hby d3_24)) ?_
    show Done p e below s _ _ _ (T103.setTop (mkF m 25 #[.val (.ref a1), .val (.int p2), .val (.int p3)] [(.int x1)]))
    exact Done.int X103 hx hlk hret (hb hby d3_25) (by decide) (by decide) ⟨by rw [show OE x1 y1 p3 = x1 from by unfold OE; rw [if_neg c1]] <;> rfl, N0, e103⟩
theorem own_oeA (f s : Int32) : OE f s f = s := by unfold OE; rw [if_pos rfl]
theorem own_oeB (f s : Int32) : OE f s s = f := by
  unfold OE
  split
  · rename_i h; exact h.symm
  · rfl
theorem own_v (p x : Int32) (h : ((1 : Int32) + (p &&& (255 : Int32))) = x) : ∃ vv : Nat, x.toInt = vv ∧ 1 ≤ vv ∧ vv ≤ 256 := by
  have m := c_mask p (255 : Int32) 8 (by decide) (by decide)
  have a := c_iadd (1 : Int32) (p &&& (255 : Int32))
  have r := rng32 x
  rw [h, own_one] at a
  exact ⟨x.toInt.toNat, by omega, by omega, by omega⟩
theorem own_f (p v x : Int32) (vv : Nat) (h : ((1 : Int32) + ((p &&& (2147483647 : Int32)) % v)) = x) (hv : v.toInt = vv) (hv1 : 1 ≤ vv) : 1 ≤ x.toInt ∧ x.toInt ≤ vv := by
  have m := c_mask p (2147483647 : Int32) 31 (by decide) (by decide)
  have q := (c_irem (p &&& (2147483647 : Int32)) v vv hv).1 (by omega)
  have a := c_iadd (1 : Int32) ((p &&& (2147483647 : Int32)) % v)
  have r := rng32 x
  have rv := rng32 v
  have l1 := Int.emod_nonneg (p &&& (2147483647 : Int32)).toInt (b := (vv : Int)) (by omega)
  have l2 := Int.emod_lt_of_pos (p &&& (2147483647 : Int32)).toInt (b := (vv : Int)) (by omega)
  rw [h, own_one] at a
  omega
theorem own_in2 {f1 f2 : Int32} {vv : Nat} (h1 : 1 ≤ f1.toInt ∧ f1.toInt ≤ vv) (h2 : 1 ≤ f2.toInt ∧ f2.toInt ≤ vv) : ∀ i, 1 ≤ i → i ≤ 2 → 1 ≤ fv [(0 : Int32), f1, f2] i ∧ fv [(0 : Int32), f1, f2] i ≤ (vv : Int) := by
  intro i a b
  obtain rfl | rfl : i = 1 ∨ i = 2 := by omega
  · exact h1
  · exact h2
theorem own_road (p x : Int32) (h : ((1 : Int32) + (p &&& (1 : Int32))) = x) : x = (1 : Int32) ∨ x = (2 : Int32) := by
  have m := c_mask p (1 : Int32) 1 (by decide) (by decide)
  have a := c_iadd (1 : Int32) (p &&& (1 : Int32))
  have r := rng32 x
  rw [h, own_one] at a
  simp only [← Int32.toInt_inj, own_one, show (2 : Int32).toInt = 2 from rfl]
  omega
theorem pn_0 : plainName "com/example/dendrocover/dendrocover/NetworkOtherEndPinLaw" = true := by first | (simp [plainName, overriddenIn]; done) | decide +kernel
theorem ef_0 (m : MethodId) (p1 : Int32) (p2 : Int32) (p3 : Int32) (p4 : Int32) (p5 : Int32) (p6 : Int32) : entryFrame m #[(.int p1), (.int p2), (.int p3), (.int p4), (.int p5), (.int p6)] maxLocals = mkF m 0 #[.val (.int p1), .val (.int p2), .val (.int p3), .val (.int p4), .val (.int p5), .val (.int p6), .unset, .unset, .unset, .unset, .unset, .unset, .unset, .unset, .unset, .unset, .unset, .unset] [] := by first | (simp [entryFrame, mkF, argsToLocals, Value.category, maxLocals]; done) | rfl
def Qrm0 (Z : State) (p1 : Int32) (p2 : Int32) (p3 : Int32) (p4 : Int32) (p5 : Int32) (p6 : Int32) (h0 : Heap) (n0 : Nat) : Option Value → Heap → List Loc → Prop := fun v h L => v = some (.int 1) ∧ Fr n0 L
set_option maxRecDepth 65536 in
set_option maxHeartbeats 40000000 in
theorem rm0 (l : Launch) (Z : State) (a0 : Array Value) (hw : ∀ d ∈ tables_1, d.before a0 Z = true) (ws : List Jvm.Cond) (p1 : Int32) (p2 : Int32) (p3 : Int32) (p4 : Int32) (p5 : Int32) (p6 : Int32) (h0 : Heap) (n0 : Nat) (Z0 : n0 ≤ h0.size) :
    MetFree l x (head1 (Jvm.Cond.code x code maxLocals ret :: ws) room_1) (fun a U => a = #[(.int p1), (.int p2), (.int p3), (.int p4), (.int p5), (.int p6)] ∧ Z.Warmed39 U.vm ∧ U.heap = h0) (fun _ _ _ _ _ => True) (fun _ U o U' => ∃ v L, o = .returned v ∧ Qrm0 Z p1 p2 p3 p4 p5 p6 h0 n0 v U'.heap L ∧ FrameEnd U o U' L room_1.cells room_1.slots) := by
  refine MetFree.of_bodySF (plainFor_of_name pn_0) hisR ?_
  intro p e s m args below meth c s₁ Bd hml0 hP hK
  obtain ⟨rfl, hZ, hh⟩ := hP
  have hx := Bd.exec
  have hby := Bd.bytes
  have hml : c.maxLocals = 18 := hml0
  have hown : s.vm.findClass "com/example/dendrocover/dendrocover/NetworkOtherEndPinLaw" = some m.cls := findClass_of_methodNamed Bd.named
  have hnm := (name_of_methodNamed Bd.named Bd.method).1
  have hlk : meth.locks = false := BodyLoose.notSynchronized Bd
  have hret := Bd.returns
  have X0 : Stand p l e room_1 s m #[(.int p1), (.int p2), (.int p3), (.int p4), (.int p5), (.int p6)] below meth c s₁ [] 0 0 := Stand.of_body Bd
  have e0 : s₁.heap = h0 := by rw [← hh, Bd.state]; rfl
  have N0 := Fr.nil n0
  show Done p e below s (Qrm0 Z p1 p2 p3 p4 p5 p6 h0 n0) room_1.cells room_1.slots (s₁.setTop (entryFrame m #[(.int p1), (.int p2), (.int p3), (.int p4), (.int p5), (.int p6)] maxLocals))
  refine Done.step (fun t k => castTop (ef_0 m p1 p2 p3 p4 p5 p6) k) ?_
  show Done p e below s _ _ _ (s₁.setTop (mkF m 0 #[.val (.int p1), .val (.int p2), .val (.int p3), .val (.int p4), .val (.int p5), .val (.int p6), .unset, .unset, .unset, .unset, .unset, .unset, .unset, .unset, .unset, .unset, .unset, .unset] []))
  refine Done.step (fun t k => XS.iconst X0.here hx rfl (hb hby at_0) k) ?_
  show Done p e below s _ _ _ (s₁.setTop (mkF m 1 #[.val (.int p1), .val (.int p2), .val (.int p3), .val (.int p4), .val (.int p5), .val (.int p6), .unset, .unset, .unset, .unset, .unset, .unset, .unset, .unset, .unset, .unset, .unset, .unset] [(.int (1 : Int32))]))
  refine Done.step (fun t k => XS.iloadN X0.here hx rfl (hb hby at_1) rfl k) ?_
  show Done p e below s _ _ _ (s₁.setTop (mkF m 2 #[.val (.int p1), .val (.int p2), .val (.int p3), .val (.int p4), .val (.int p5), .val (.int p6), .unset, .unset, .unset, .unset, .unset, .unset, .unset, .unset, .unset, .unset, .unset, .unset] [(.int p1), (.int (1 : Int32))]))
  refine Done.step (fun t k => XS.sipush X0.here hx rfl (hb hby at_2) k) ?_
  show Done p e below s _ _ _ (s₁.setTop (mkF m 5 #[.val (.int p1), .val (.int p2), .val (.int p3), .val (.int p4), .val (.int p5), .val (.int p6), .unset, .unset, .unset, .unset, .unset, .unset, .unset, .unset, .unset, .unset, .unset, .unset] [(.int (255 : Int32)), (.int p1), (.int (1 : Int32))]))
  refine Done.step (fun t k => XS.iand X0.here hx rfl (hb hby at_5) rfl k) ?_
  show Done p e below s _ _ _ (s₁.setTop (mkF m 6 #[.val (.int p1), .val (.int p2), .val (.int p3), .val (.int p4), .val (.int p5), .val (.int p6), .unset, .unset, .unset, .unset, .unset, .unset, .unset, .unset, .unset, .unset, .unset, .unset] [(.int (p1 &&& (255 : Int32))), (.int (1 : Int32))]))
  refine Done.step (fun t k => XS.iadd X0.here hx rfl (hb hby at_6) rfl k) ?_
  show Done p e below s _ _ _ (s₁.setTop (mkF m 7 #[.val (.int p1), .val (.int p2), .val (.int p3), .val (.int p4), .val (.int p5), .val (.int p6), .unset, .unset, .unset, .unset, .unset, .unset, .unset, .unset, .unset, .unset, .unset, .unset] [(.int ((1 : Int32) + (p1 &&& (255 : Int32))))]))
  generalize dx101 : ((1 : Int32) + (p1 &&& (255 : Int32))) = x101
  show Done p e below s _ _ _ (s₁.setTop (mkF m 7 #[.val (.int p1), .val (.int p2), .val (.int p3), .val (.int p4), .val (.int p5), .val (.int p6), .unset, .unset, .unset, .unset, .unset, .unset, .unset, .unset, .unset, .unset, .unset, .unset] [(.int x101)]))
  refine Done.step (fun t k => XS.istore X0.here hx rfl (hb hby at_7) rfl (l' := #[.val (.int p1), .val (.int p2), .val (.int p3), .val (.int p4), .val (.int p5), .val (.int p6), .val (.int x101), .unset, .unset, .unset, .unset, .unset, .unset, .unset, .unset, .unset, .unset, .unset]) rfl k) ?_
  show Done p e below s _ _ _ (s₁.setTop (mkF m 9 #[.val (.int p1), .val (.int p2), .val (.int p3), .val (.int p4), .val (.int p5), .val (.int p6), .val (.int x101), .unset, .unset, .unset, .unset, .unset, .unset, .unset, .unset, .unset, .unset, .unset] []))
  refine Done.step (fun t k => XS.iconst X0.here hx rfl (hb hby at_9) k) ?_
  show Done p e below s _ _ _ (s₁.setTop (mkF m 10 #[.val (.int p1), .val (.int p2), .val (.int p3), .val (.int p4), .val (.int p5), .val (.int p6), .val (.int x101), .unset, .unset, .unset, .unset, .unset, .unset, .unset, .unset, .unset, .unset, .unset] [(.int (3 : Int32))]))
  obtain ⟨T102, h102, k102, X102, e102, E102, A102, B102, st102⟩ := newPE X0 hx hZ (hw _ (List.mem_of_getElem? (i := 0) rfl)) e0 (g := (mkF m 10 #[.val (.int p1), .val (.int p2), .val (.int p3), .val (.int p4), .val (.int p5), .val (.int p6), .val (.int x101), .unset, .unset, .unset, .unset, .unset, .unset, .unset, .unset, .unset, .unset, .unset] [(.int (3 : Int32))])) rfl (hb hby at_10) rfl (by decide) (cap := 3) (by decide) (by decide) (by decide) (by decide) (ad := "[I") (by decide)
  obtain ⟨b102, gq102⟩ : ∃ z, z = h0.size := ⟨_, rfl⟩
  rw [← gq102] at A102 B102 st102
  have g_b102 : n0 ≤ b102 := Nat.le_trans Z0 (Nat.le_of_eq gq102.symm)
  have Z102 : n0 ≤ h102.size := Nat.le_trans Z0 E102.1
  have f103 : Ax Z h102 b102 .int [(.int (0 : Int32)), (.int (0 : Int32)), (.int (0 : Int32))] := Ax.new (ty := .int) (i := 3) A102 (by decide)
  refine Done.step st102 ?_
  show Done p e below s _ _ _ (T102.setTop (mkF m 12 #[.val (.int p1), .val (.int p2), .val (.int p3), .val (.int p4), .val (.int p5), .val (.int p6), .val (.int x101), .unset, .unset, .unset, .unset, .unset, .unset, .unset, .unset, .unset, .unset, .unset] [(.ref b102)]))
  refine Done.step (fun t k => XS.astore X102.here hx rfl (hb hby at_12) rfl rfl (l' := #[.val (.int p1), .val (.int p2), .val (.int p3), .val (.int p4), .val (.int p5), .val (.int p6), .val (.int x101), .val (.ref b102), .unset, .unset, .unset, .unset, .unset, .unset, .unset, .unset, .unset, .unset]) rfl k) ?_
  show Done p e below s _ _ _ (T102.setTop (mkF m 14 #[.val (.int p1), .val (.int p2), .val (.int p3), .val (.int p4), .val (.int p5), .val (.int p6), .val (.int x101), .val (.ref b102), .unset, .unset, .unset, .unset, .unset, .unset, .unset, .unset, .unset, .unset] []))
  refine Done.step (fun t k => XS.iconst X102.here hx rfl (hb hby at_14) k) ?_
  show Done p e below s _ _ _ (T102.setTop (mkF m 15 #[.val (.int p1), .val (.int p2), .val (.int p3), .val (.int p4), .val (.int p5), .val (.int p6), .val (.int x101), .val (.ref b102), .unset, .unset, .unset, .unset, .unset, .unset, .unset, .unset, .unset, .unset] [(.int (3 : Int32))]))
  obtain ⟨T104, h104, k104, X104, e104, E104, A104, B104, st104⟩ := newPE X102 hx hZ (hw _ (List.mem_of_getElem? (i := 0) rfl)) e102 (g := (mkF m 15 #[.val (.int p1), .val (.int p2), .val (.int p3), .val (.int p4), .val (.int p5), .val (.int p6), .val (.int x101), .val (.ref b102), .unset, .unset, .unset, .unset, .unset, .unset, .unset, .unset, .unset, .unset] [(.int (3 : Int32))])) rfl (hb hby at_15) rfl (by decide) (cap := 3) (by decide) (by decide) (by decide) (by decide) (ad := "[I") (by decide)
  obtain ⟨b104, gq104⟩ : ∃ z, z = h102.size := ⟨_, rfl⟩
  rw [← gq104] at A104 B104 st104
  have ne105 : b102 ≠ b104 := Nat.ne_of_lt (Nat.lt_of_lt_of_le B102.lt (Nat.le_of_eq gq104.symm))
  have f106 : Exa Z h104 b102 "[I" := B102.ext E104
  have f107 : Ax Z h104 b102 .int [(.int (0 : Int32)), (.int (0 : Int32)), (.int (0 : Int32))] := f103.ext E104
  have g_b104 : n0 ≤ b104 := Nat.le_trans Z102 (Nat.le_of_eq gq104.symm)
  have Z104 : n0 ≤ h104.size := Nat.le_trans Z102 E104.1
  have f108 : Ax Z h104 b104 .int [(.int (0 : Int32)), (.int (0 : Int32)), (.int (0 : Int32))] := Ax.new (ty := .int) (i := 3) A104 (by decide)
  refine Done.step st104 ?_
  show Done p e below s _ _ _ (T104.setTop (mkF m 17 #[.val (.int p1), .val (.int p2), .val (.int p3), .val (.int p4), .val (.int p5), .val (.int p6), .val (.int x101), .val (.ref b102), .unset, .unset, .unset, .unset, .unset, .unset, .unset, .unset, .unset, .unset] [(.ref b104)]))
  refine Done.step (fun t k => XS.astore X104.here hx rfl (hb hby at_17) rfl rfl (l' := #[.val (.int p1), .val (.int p2), .val (.int p3), .val (.int p4), .val (.int p5), .val (.int p6), .val (.int x101), .val (.ref b102), .val (.ref b104), .unset, .unset, .unset, .unset, .unset, .unset, .unset, .unset, .unset]) rfl k) ?_
  show Done p e below s _ _ _ (T104.setTop (mkF m 19 #[.val (.int p1), .val (.int p2), .val (.int p3), .val (.int p4), .val (.int p5), .val (.int p6), .val (.int x101), .val (.ref b102), .val (.ref b104), .unset, .unset, .unset, .unset, .unset, .unset, .unset, .unset, .unset] []))
  refine Done.step (fun t k => XS.iconst X104.here hx rfl (hb hby at_19) k) ?_
  show Done p e below s _ _ _ (T104.setTop (mkF m 20 #[.val (.int p1), .val (.int p2), .val (.int p3), .val (.int p4), .val (.int p5), .val (.int p6), .val (.int x101), .val (.ref b102), .val (.ref b104), .unset, .unset, .unset, .unset, .unset, .unset, .unset, .unset, .unset] [(.int (3 : Int32))]))
  obtain ⟨T109, h109, k109, X109, e109, E109, A109, B109, st109⟩ := newPE X104 hx hZ (hw _ (List.mem_of_getElem? (i := 0) rfl)) e104 (g := (mkF m 20 #[.val (.int p1), .val (.int p2), .val (.int p3), .val (.int p4), .val (.int p5), .val (.int p6), .val (.int x101), .val (.ref b102), .val (.ref b104), .unset, .unset, .unset, .unset, .unset, .unset, .unset, .unset, .unset] [(.int (3 : Int32))])) rfl (hb hby at_20) rfl (by decide) (cap := 3) (by decide) (by decide) (by decide) (by decide) (ad := "[I") (by decide)
  obtain ⟨b109, gq109⟩ : ∃ z, z = h104.size := ⟨_, rfl⟩
  rw [← gq109] at A109 B109 st109
  have ne110 : b102 ≠ b109 := Nat.ne_of_lt (Nat.lt_of_lt_of_le f106.lt (Nat.le_of_eq gq109.symm))
  have ne111 : b104 ≠ b109 := Nat.ne_of_lt (Nat.lt_of_lt_of_le B104.lt (Nat.le_of_eq gq109.symm))
  have f112 : Exa Z h109 b102 "[I" := f106.ext E109
  have f113 : Ax Z h109 b102 .int [(.int (0 : Int32)), (.int (0 : Int32)), (.int (0 : Int32))] := f107.ext E109
  have f114 : Exa Z h109 b104 "[I" := B104.ext E109
  have f115 : Ax Z h109 b104 .int [(.int (0 : Int32)), (.int (0 : Int32)), (.int (0 : Int32))] := f108.ext E109
  have g_b109 : n0 ≤ b109 := Nat.le_trans Z104 (Nat.le_of_eq gq109.symm)
  have Z109 : n0 ≤ h109.size := Nat.le_trans Z104 E109.1
  have f116 : Ax Z h109 b109 .int [(.int (0 : Int32)), (.int (0 : Int32)), (.int (0 : Int32))] := Ax.new (ty := .int) (i := 3) A109 (by decide)
  refine Done.step st109 ?_
  show Done p e below s _ _ _ (T109.setTop (mkF m 22 #[.val (.int p1), .val (.int p2), .val (.int p3), .val (.int p4), .val (.int p5), .val (.int p6), .val (.int x101), .val (.ref b102), .val (.ref b104), .unset, .unset, .unset, .unset, .unset, .unset, .unset, .unset, .unset] [(.ref b109)]))
  refine Done.step (fun t k => XS.astore X109.here hx rfl (hb hby at_22) rfl rfl (l' := #[.val (.int p1), .val (.int p2), .val (.int p3), .val (.int p4), .val (.int p5), .val (.int p6), .val (.int x101), .val (.ref b102), .val (.ref b104), .val (.ref b109), .unset, .unset, .unset, .unset, .unset, .unset, .unset, .unset]) rfl k) ?_
  show Done p e below s _ _ _ (T109.setTop (mkF m 24 #[.val (.int p1), .val (.int p2), .val (.int p3), .val (.int p4), .val (.int p5), .val (.int p6), .val (.int x101), .val (.ref b102), .val (.ref b104), .val (.ref b109), .unset, .unset, .unset, .unset, .unset, .unset, .unset, .unset] []))
  refine Done.step (fun t k => XS.aload X109.here hx rfl (hb hby at_24) rfl rfl k) ?_
  show Done p e below s _ _ _ (T109.setTop (mkF m 26 #[.val (.int p1), .val (.int p2), .val (.int p3), .val (.int p4), .val (.int p5), .val (.int p6), .val (.int x101), .val (.ref b102), .val (.ref b104), .val (.ref b109), .unset, .unset, .unset, .unset, .unset, .unset, .unset, .unset] [(.ref b102)]))
  refine Done.step (fun t k => XS.iconst X109.here hx rfl (hb hby at_26) k) ?_
  show Done p e below s _ _ _ (T109.setTop (mkF m 27 #[.val (.int p1), .val (.int p2), .val (.int p3), .val (.int p4), .val (.int p5), .val (.int p6), .val (.int x101), .val (.ref b102), .val (.ref b104), .val (.ref b109), .unset, .unset, .unset, .unset, .unset, .unset, .unset, .unset] [(.int (1 : Int32)), (.ref b102)]))
  refine Done.step (fun t k => XS.iconst X109.here hx rfl (hb hby at_27) k) ?_
  show Done p e below s _ _ _ (T109.setTop (mkF m 28 #[.val (.int p1), .val (.int p2), .val (.int p3), .val (.int p4), .val (.int p5), .val (.int p6), .val (.int x101), .val (.ref b102), .val (.ref b104), .val (.ref b109), .unset, .unset, .unset, .unset, .unset, .unset, .unset, .unset] [(.int (1 : Int32)), (.int (1 : Int32)), (.ref b102)]))
  refine Done.step (fun t k => XS.iloadN X109.here hx rfl (hb hby at_28) rfl k) ?_
  show Done p e below s _ _ _ (T109.setTop (mkF m 29 #[.val (.int p1), .val (.int p2), .val (.int p3), .val (.int p4), .val (.int p5), .val (.int p6), .val (.int x101), .val (.ref b102), .val (.ref b104), .val (.ref b109), .unset, .unset, .unset, .unset, .unset, .unset, .unset, .unset] [(.int p2), (.int (1 : Int32)), (.int (1 : Int32)), (.ref b102)]))
  refine Done.step (X109.ldcInt hx hown (mvT hZ (hw _ (List.mem_of_getElem? (i := 1) rfl))) (g := (mkF m 29 #[.val (.int p1), .val (.int p2), .val (.int p3), .val (.int p4), .val (.int p5), .val (.int p6), .val (.int x101), .val (.ref b102), .val (.ref b104), .val (.ref b109), .unset, .unset, .unset, .unset, .unset, .unset, .unset, .unset] [(.int p2), (.int (1 : Int32)), (.int (1 : Int32)), (.ref b102)])) rfl (hb hby at_29)) ?_
  show Done p e below s _ _ _ (T109.setTop (mkF m 31 #[.val (.int p1), .val (.int p2), .val (.int p3), .val (.int p4), .val (.int p5), .val (.int p6), .val (.int x101), .val (.ref b102), .val (.ref b104), .val (.ref b109), .unset, .unset, .unset, .unset, .unset, .unset, .unset, .unset] [(.int (2147483647 : Int32)), (.int p2), (.int (1 : Int32)), (.int (1 : Int32)), (.ref b102)]))
  refine Done.step (fun t k => XS.iand X109.here hx rfl (hb hby at_31) rfl k) ?_
  show Done p e below s _ _ _ (T109.setTop (mkF m 32 #[.val (.int p1), .val (.int p2), .val (.int p3), .val (.int p4), .val (.int p5), .val (.int p6), .val (.int x101), .val (.ref b102), .val (.ref b104), .val (.ref b109), .unset, .unset, .unset, .unset, .unset, .unset, .unset, .unset] [(.int (p2 &&& (2147483647 : Int32))), (.int (1 : Int32)), (.int (1 : Int32)), (.ref b102)]))
  refine Done.step (fun t k => XS.iload X109.here hx rfl (hb hby at_32) rfl k) ?_
  show Done p e below s _ _ _ (T109.setTop (mkF m 34 #[.val (.int p1), .val (.int p2), .val (.int p3), .val (.int p4), .val (.int p5), .val (.int p6), .val (.int x101), .val (.ref b102), .val (.ref b104), .val (.ref b109), .unset, .unset, .unset, .unset, .unset, .unset, .unset, .unset] [(.int x101), (.int (p2 &&& (2147483647 : Int32))), (.int (1 : Int32)), (.int (1 : Int32)), (.ref b102)]))
  obtain ⟨vv, hv, hv1, hv2⟩ := own_v p1 x101 dx101
  have hv0 : ¬ x101 = (0 : Int32) := by rw [← Int32.toInt_inj, hv]; show ¬ (vv : Int) = (0 : Int); omega
  refine Done.step (fun t k => iremM X109 hx rfl (hb hby at_34) rfl hv0 k) ?_
  show Done p e below s _ _ _ (T109.setTop (mkF m 35 #[.val (.int p1), .val (.int p2), .val (.int p3), .val (.int p4), .val (.int p5), .val (.int p6), .val (.int x101), .val (.ref b102), .val (.ref b104), .val (.ref b109), .unset, .unset, .unset, .unset, .unset, .unset, .unset, .unset] [(.int ((p2 &&& (2147483647 : Int32)) % x101)), (.int (1 : Int32)), (.int (1 : Int32)), (.ref b102)]))
  refine Done.step (fun t k => XS.iadd X109.here hx rfl (hb hby at_35) rfl k) ?_
  show Done p e below s _ _ _ (T109.setTop (mkF m 36 #[.val (.int p1), .val (.int p2), .val (.int p3), .val (.int p4), .val (.int p5), .val (.int p6), .val (.int x101), .val (.ref b102), .val (.ref b104), .val (.ref b109), .unset, .unset, .unset, .unset, .unset, .unset, .unset, .unset] [(.int ((1 : Int32) + ((p2 &&& (2147483647 : Int32)) % x101))), (.int (1 : Int32)), (.ref b102)]))
  generalize df1 : ((1 : Int32) + ((p2 &&& (2147483647 : Int32)) % x101)) = f1
  show Done p e below s _ _ _ (T109.setTop (mkF m 36 #[.val (.int p1), .val (.int p2), .val (.int p3), .val (.int p4), .val (.int p5), .val (.int p6), .val (.int x101), .val (.ref b102), .val (.ref b104), .val (.ref b109), .unset, .unset, .unset, .unset, .unset, .unset, .unset, .unset] [(.int f1), (.int (1 : Int32)), (.ref b102)]))
  have hf1 := own_f p2 x101 f1 vv df1 hv hv1
  obtain ⟨T117, h117, X117, e117, W117, A117, st117⟩ := stoI X109 hx hZ e109 f113 (j := (1 : Int32)) (by decide) (i := 1) (by decide) (Nat.le_of_ble_eq_true rfl) (g := (mkF m 36 #[.val (.int p1), .val (.int p2), .val (.int p3), .val (.int p4), .val (.int p5), .val (.int p6), .val (.int x101), .val (.ref b102), .val (.ref b104), .val (.ref b109), .unset, .unset, .unset, .unset, .unset, .unset, .unset, .unset] [(.int f1), (.int (1 : Int32)), (.ref b102)])) rfl rfl (hb hby at_36)
  have f118 : Exa Z h117 b102 "[I" := f112.wr W117
  have f119 : Ax Z h117 b102 .int [(.int (0 : Int32)), (.int f1), (.int (0 : Int32))] := A117
  have f120 : Exa Z h117 b104 "[I" := f114.wr W117
  have f121 : Ax Z h117 b104 .int [(.int (0 : Int32)), (.int (0 : Int32)), (.int (0 : Int32))] := f115.other W117 (Ne.symm ne105)
  have f122 : Exa Z h117 b109 "[I" := B109.wr W117
  have f123 : Ax Z h117 b109 .int [(.int (0 : Int32)), (.int (0 : Int32)), (.int (0 : Int32))] := f116.other W117 (Ne.symm ne110)
  have Z117 : n0 ≤ h117.size := Nat.le_trans Z109 (Keep.of_wr W117).1
  have N117 := Fr.snoc X117 N0 g_b102
  refine Done.step st117 ?_
  show Done p e below s _ _ _ (T117.setTop (mkF m 37 #[.val (.int p1), .val (.int p2), .val (.int p3), .val (.int p4), .val (.int p5), .val (.int p6), .val (.int x101), .val (.ref b102), .val (.ref b104), .val (.ref b109), .unset, .unset, .unset, .unset, .unset, .unset, .unset, .unset] []))
  refine Done.step (fun t k => XS.aload X117.here hx rfl (hb hby at_37) rfl rfl k) ?_
  show Done p e below s _ _ _ (T117.setTop (mkF m 39 #[.val (.int p1), .val (.int p2), .val (.int p3), .val (.int p4), .val (.int p5), .val (.int p6), .val (.int x101), .val (.ref b102), .val (.ref b104), .val (.ref b109), .unset, .unset, .unset, .unset, .unset, .unset, .unset, .unset] [(.ref b104)]))
  refine Done.step (fun t k => XS.iconst X117.here hx rfl (hb hby at_39) k) ?_
  show Done p e below s _ _ _ (T117.setTop (mkF m 40 #[.val (.int p1), .val (.int p2), .val (.int p3), .val (.int p4), .val (.int p5), .val (.int p6), .val (.int x101), .val (.ref b102), .val (.ref b104), .val (.ref b109), .unset, .unset, .unset, .unset, .unset, .unset, .unset, .unset] [(.int (1 : Int32)), (.ref b104)]))
  refine Done.step (fun t k => XS.iconst X117.here hx rfl (hb hby at_40) k) ?_
  show Done p e below s _ _ _ (T117.setTop (mkF m 41 #[.val (.int p1), .val (.int p2), .val (.int p3), .val (.int p4), .val (.int p5), .val (.int p6), .val (.int x101), .val (.ref b102), .val (.ref b104), .val (.ref b109), .unset, .unset, .unset, .unset, .unset, .unset, .unset, .unset] [(.int (1 : Int32)), (.int (1 : Int32)), (.ref b104)]))
  refine Done.step (fun t k => XS.iloadN X117.here hx rfl (hb hby at_41) rfl k) ?_
  show Done p e below s _ _ _ (T117.setTop (mkF m 42 #[.val (.int p1), .val (.int p2), .val (.int p3), .val (.int p4), .val (.int p5), .val (.int p6), .val (.int x101), .val (.ref b102), .val (.ref b104), .val (.ref b109), .unset, .unset, .unset, .unset, .unset, .unset, .unset, .unset] [(.int p3), (.int (1 : Int32)), (.int (1 : Int32)), (.ref b104)]))
  refine Done.step (X117.ldcInt hx hown (mvT hZ (hw _ (List.mem_of_getElem? (i := 1) rfl))) (g := (mkF m 42 #[.val (.int p1), .val (.int p2), .val (.int p3), .val (.int p4), .val (.int p5), .val (.int p6), .val (.int x101), .val (.ref b102), .val (.ref b104), .val (.ref b109), .unset, .unset, .unset, .unset, .unset, .unset, .unset, .unset] [(.int p3), (.int (1 : Int32)), (.int (1 : Int32)), (.ref b104)])) rfl (hb hby at_42)) ?_
  show Done p e below s _ _ _ (T117.setTop (mkF m 44 #[.val (.int p1), .val (.int p2), .val (.int p3), .val (.int p4), .val (.int p5), .val (.int p6), .val (.int x101), .val (.ref b102), .val (.ref b104), .val (.ref b109), .unset, .unset, .unset, .unset, .unset, .unset, .unset, .unset] [(.int (2147483647 : Int32)), (.int p3), (.int (1 : Int32)), (.int (1 : Int32)), (.ref b104)]))
  refine Done.step (fun t k => XS.iand X117.here hx rfl (hb hby at_44) rfl k) ?_
  show Done p e below s _ _ _ (T117.setTop (mkF m 45 #[.val (.int p1), .val (.int p2), .val (.int p3), .val (.int p4), .val (.int p5), .val (.int p6), .val (.int x101), .val (.ref b102), .val (.ref b104), .val (.ref b109), .unset, .unset, .unset, .unset, .unset, .unset, .unset, .unset] [(.int (p3 &&& (2147483647 : Int32))), (.int (1 : Int32)), (.int (1 : Int32)), (.ref b104)]))
  refine Done.step (fun t k => XS.iload X117.here hx rfl (hb hby at_45) rfl k) ?_
  show Done p e below s _ _ _ (T117.setTop (mkF m 47 #[.val (.int p1), .val (.int p2), .val (.int p3), .val (.int p4), .val (.int p5), .val (.int p6), .val (.int x101), .val (.ref b102), .val (.ref b104), .val (.ref b109), .unset, .unset, .unset, .unset, .unset, .unset, .unset, .unset] [(.int x101), (.int (p3 &&& (2147483647 : Int32))), (.int (1 : Int32)), (.int (1 : Int32)), (.ref b104)]))
  refine Done.step (fun t k => iremM X117 hx rfl (hb hby at_47) rfl hv0 k) ?_
  show Done p e below s _ _ _ (T117.setTop (mkF m 48 #[.val (.int p1), .val (.int p2), .val (.int p3), .val (.int p4), .val (.int p5), .val (.int p6), .val (.int x101), .val (.ref b102), .val (.ref b104), .val (.ref b109), .unset, .unset, .unset, .unset, .unset, .unset, .unset, .unset] [(.int ((p3 &&& (2147483647 : Int32)) % x101)), (.int (1 : Int32)), (.int (1 : Int32)), (.ref b104)]))
  refine Done.step (fun t k => XS.iadd X117.here hx rfl (hb hby at_48) rfl k) ?_
  show Done p e below s _ _ _ (T117.setTop (mkF m 49 #[.val (.int p1), .val (.int p2), .val (.int p3), .val (.int p4), .val (.int p5), .val (.int p6), .val (.int x101), .val (.ref b102), .val (.ref b104), .val (.ref b109), .unset, .unset, .unset, .unset, .unset, .unset, .unset, .unset] [(.int ((1 : Int32) + ((p3 &&& (2147483647 : Int32)) % x101))), (.int (1 : Int32)), (.ref b104)]))
  generalize ds1 : ((1 : Int32) + ((p3 &&& (2147483647 : Int32)) % x101)) = s1
  show Done p e below s _ _ _ (T117.setTop (mkF m 49 #[.val (.int p1), .val (.int p2), .val (.int p3), .val (.int p4), .val (.int p5), .val (.int p6), .val (.int x101), .val (.ref b102), .val (.ref b104), .val (.ref b109), .unset, .unset, .unset, .unset, .unset, .unset, .unset, .unset] [(.int s1), (.int (1 : Int32)), (.ref b104)]))
  have hs1 := own_f p3 x101 s1 vv ds1 hv hv1
  obtain ⟨T124, h124, X124, e124, W124, A124, st124⟩ := stoI X117 hx hZ e117 f121 (j := (1 : Int32)) (by decide) (i := 1) (by decide) (Nat.le_of_ble_eq_true rfl) (g := (mkF m 49 #[.val (.int p1), .val (.int p2), .val (.int p3), .val (.int p4), .val (.int p5), .val (.int p6), .val (.int x101), .val (.ref b102), .val (.ref b104), .val (.ref b109), .unset, .unset, .unset, .unset, .unset, .unset, .unset, .unset] [(.int s1), (.int (1 : Int32)), (.ref b104)])) rfl rfl (hb hby at_49)
  have f125 : Exa Z h124 b102 "[I" := f118.wr W124
  have f126 : Ax Z h124 b102 .int [(.int (0 : Int32)), (.int f1), (.int (0 : Int32))] := f119.other W124 ne105
  have f127 : Exa Z h124 b104 "[I" := f120.wr W124
  have f128 : Ax Z h124 b104 .int [(.int (0 : Int32)), (.int s1), (.int (0 : Int32))] := A124
  have f129 : Exa Z h124 b109 "[I" := f122.wr W124
  have f130 : Ax Z h124 b109 .int [(.int (0 : Int32)), (.int (0 : Int32)), (.int (0 : Int32))] := f123.other W124 (Ne.symm ne111)
  have Z124 : n0 ≤ h124.size := Nat.le_trans Z117 (Keep.of_wr W124).1
  have N124 := Fr.snoc X124 N117 g_b104
  refine Done.step st124 ?_
  show Done p e below s _ _ _ (T124.setTop (mkF m 50 #[.val (.int p1), .val (.int p2), .val (.int p3), .val (.int p4), .val (.int p5), .val (.int p6), .val (.int x101), .val (.ref b102), .val (.ref b104), .val (.ref b109), .unset, .unset, .unset, .unset, .unset, .unset, .unset, .unset] []))
  refine Done.step (fun t k => XS.aload X124.here hx rfl (hb hby at_50) rfl rfl k) ?_
  show Done p e below s _ _ _ (T124.setTop (mkF m 52 #[.val (.int p1), .val (.int p2), .val (.int p3), .val (.int p4), .val (.int p5), .val (.int p6), .val (.int x101), .val (.ref b102), .val (.ref b104), .val (.ref b109), .unset, .unset, .unset, .unset, .unset, .unset, .unset, .unset] [(.ref b102)]))
  refine Done.step (fun t k => XS.iconst X124.here hx rfl (hb hby at_52) k) ?_
  show Done p e below s _ _ _ (T124.setTop (mkF m 53 #[.val (.int p1), .val (.int p2), .val (.int p3), .val (.int p4), .val (.int p5), .val (.int p6), .val (.int x101), .val (.ref b102), .val (.ref b104), .val (.ref b109), .unset, .unset, .unset, .unset, .unset, .unset, .unset, .unset] [(.int (2 : Int32)), (.ref b102)]))
  refine Done.step (fun t k => XS.iconst X124.here hx rfl (hb hby at_53) k) ?_
  show Done p e below s _ _ _ (T124.setTop (mkF m 54 #[.val (.int p1), .val (.int p2), .val (.int p3), .val (.int p4), .val (.int p5), .val (.int p6), .val (.int x101), .val (.ref b102), .val (.ref b104), .val (.ref b109), .unset, .unset, .unset, .unset, .unset, .unset, .unset, .unset] [(.int (1 : Int32)), (.int (2 : Int32)), (.ref b102)]))
  refine Done.step (fun t k => XS.iloadN X124.here hx rfl (hb hby at_54) rfl k) ?_
  show Done p e below s _ _ _ (T124.setTop (mkF m 55 #[.val (.int p1), .val (.int p2), .val (.int p3), .val (.int p4), .val (.int p5), .val (.int p6), .val (.int x101), .val (.ref b102), .val (.ref b104), .val (.ref b109), .unset, .unset, .unset, .unset, .unset, .unset, .unset, .unset] [(.int p4), (.int (1 : Int32)), (.int (2 : Int32)), (.ref b102)]))
  refine Done.step (X124.ldcInt hx hown (mvT hZ (hw _ (List.mem_of_getElem? (i := 1) rfl))) (g := (mkF m 55 #[.val (.int p1), .val (.int p2), .val (.int p3), .val (.int p4), .val (.int p5), .val (.int p6), .val (.int x101), .val (.ref b102), .val (.ref b104), .val (.ref b109), .unset, .unset, .unset, .unset, .unset, .unset, .unset, .unset] [(.int p4), (.int (1 : Int32)), (.int (2 : Int32)), (.ref b102)])) rfl (hb hby at_55)) ?_
  show Done p e below s _ _ _ (T124.setTop (mkF m 57 #[.val (.int p1), .val (.int p2), .val (.int p3), .val (.int p4), .val (.int p5), .val (.int p6), .val (.int x101), .val (.ref b102), .val (.ref b104), .val (.ref b109), .unset, .unset, .unset, .unset, .unset, .unset, .unset, .unset] [(.int (2147483647 : Int32)), (.int p4), (.int (1 : Int32)), (.int (2 : Int32)), (.ref b102)]))
  refine Done.step (fun t k => XS.iand X124.here hx rfl (hb hby at_57) rfl k) ?_
  show Done p e below s _ _ _ (T124.setTop (mkF m 58 #[.val (.int p1), .val (.int p2), .val (.int p3), .val (.int p4), .val (.int p5), .val (.int p6), .val (.int x101), .val (.ref b102), .val (.ref b104), .val (.ref b109), .unset, .unset, .unset, .unset, .unset, .unset, .unset, .unset] [(.int (p4 &&& (2147483647 : Int32))), (.int (1 : Int32)), (.int (2 : Int32)), (.ref b102)]))
  refine Done.step (fun t k => XS.iload X124.here hx rfl (hb hby at_58) rfl k) ?_
  show Done p e below s _ _ _ (T124.setTop (mkF m 60 #[.val (.int p1), .val (.int p2), .val (.int p3), .val (.int p4), .val (.int p5), .val (.int p6), .val (.int x101), .val (.ref b102), .val (.ref b104), .val (.ref b109), .unset, .unset, .unset, .unset, .unset, .unset, .unset, .unset] [(.int x101), (.int (p4 &&& (2147483647 : Int32))), (.int (1 : Int32)), (.int (2 : Int32)), (.ref b102)]))
  refine Done.step (fun t k => iremM X124 hx rfl (hb hby at_60) rfl hv0 k) ?_
  show Done p e below s _ _ _ (T124.setTop (mkF m 61 #[.val (.int p1), .val (.int p2), .val (.int p3), .val (.int p4), .val (.int p5), .val (.int p6), .val (.int x101), .val (.ref b102), .val (.ref b104), .val (.ref b109), .unset, .unset, .unset, .unset, .unset, .unset, .unset, .unset] [(.int ((p4 &&& (2147483647 : Int32)) % x101)), (.int (1 : Int32)), (.int (2 : Int32)), (.ref b102)]))
  refine Done.step (fun t k => XS.iadd X124.here hx rfl (hb hby at_61) rfl k) ?_
  show Done p e below s _ _ _ (T124.setTop (mkF m 62 #[.val (.int p1), .val (.int p2), .val (.int p3), .val (.int p4), .val (.int p5), .val (.int p6), .val (.int x101), .val (.ref b102), .val (.ref b104), .val (.ref b109), .unset, .unset, .unset, .unset, .unset, .unset, .unset, .unset] [(.int ((1 : Int32) + ((p4 &&& (2147483647 : Int32)) % x101))), (.int (2 : Int32)), (.ref b102)]))
  generalize df2 : ((1 : Int32) + ((p4 &&& (2147483647 : Int32)) % x101)) = f2
  show Done p e below s _ _ _ (T124.setTop (mkF m 62 #[.val (.int p1), .val (.int p2), .val (.int p3), .val (.int p4), .val (.int p5), .val (.int p6), .val (.int x101), .val (.ref b102), .val (.ref b104), .val (.ref b109), .unset, .unset, .unset, .unset, .unset, .unset, .unset, .unset] [(.int f2), (.int (2 : Int32)), (.ref b102)]))
  have hf2 := own_f p4 x101 f2 vv df2 hv hv1
  obtain ⟨T131, h131, X131, e131, W131, A131, st131⟩ := stoI X124 hx hZ e124 f126 (j := (2 : Int32)) (by decide) (i := 2) (by decide) (Nat.le_of_ble_eq_true rfl) (g := (mkF m 62 #[.val (.int p1), .val (.int p2), .val (.int p3), .val (.int p4), .val (.int p5), .val (.int p6), .val (.int x101), .val (.ref b102), .val (.ref b104), .val (.ref b109), .unset, .unset, .unset, .unset, .unset, .unset, .unset, .unset] [(.int f2), (.int (2 : Int32)), (.ref b102)])) rfl rfl (hb hby at_62)
  have f132 : Exa Z h131 b102 "[I" := f125.wr W131
  have f133 : Ax Z h131 b102 .int [(.int (0 : Int32)), (.int f1), (.int f2)] := A131
  have f134 : Exa Z h131 b104 "[I" := f127.wr W131
  have f135 : Ax Z h131 b104 .int [(.int (0 : Int32)), (.int s1), (.int (0 : Int32))] := f128.other W131 (Ne.symm ne105)
  have f136 : Exa Z h131 b109 "[I" := f129.wr W131
  have f137 : Ax Z h131 b109 .int [(.int (0 : Int32)), (.int (0 : Int32)), (.int (0 : Int32))] := f130.other W131 (Ne.symm ne110)
  have Z131 : n0 ≤ h131.size := Nat.le_trans Z124 (Keep.of_wr W131).1
  have N131 := Fr.snoc X131 N124 g_b102
  refine Done.step st131 ?_
  show Done p e below s _ _ _ (T131.setTop (mkF m 63 #[.val (.int p1), .val (.int p2), .val (.int p3), .val (.int p4), .val (.int p5), .val (.int p6), .val (.int x101), .val (.ref b102), .val (.ref b104), .val (.ref b109), .unset, .unset, .unset, .unset, .unset, .unset, .unset, .unset] []))
  refine Done.step (fun t k => XS.aload X131.here hx rfl (hb hby at_63) rfl rfl k) ?_
  show Done p e below s _ _ _ (T131.setTop (mkF m 65 #[.val (.int p1), .val (.int p2), .val (.int p3), .val (.int p4), .val (.int p5), .val (.int p6), .val (.int x101), .val (.ref b102), .val (.ref b104), .val (.ref b109), .unset, .unset, .unset, .unset, .unset, .unset, .unset, .unset] [(.ref b104)]))
  refine Done.step (fun t k => XS.iconst X131.here hx rfl (hb hby at_65) k) ?_
  show Done p e below s _ _ _ (T131.setTop (mkF m 66 #[.val (.int p1), .val (.int p2), .val (.int p3), .val (.int p4), .val (.int p5), .val (.int p6), .val (.int x101), .val (.ref b102), .val (.ref b104), .val (.ref b109), .unset, .unset, .unset, .unset, .unset, .unset, .unset, .unset] [(.int (2 : Int32)), (.ref b104)]))
  refine Done.step (fun t k => XS.iconst X131.here hx rfl (hb hby at_66) k) ?_
  show Done p e below s _ _ _ (T131.setTop (mkF m 67 #[.val (.int p1), .val (.int p2), .val (.int p3), .val (.int p4), .val (.int p5), .val (.int p6), .val (.int x101), .val (.ref b102), .val (.ref b104), .val (.ref b109), .unset, .unset, .unset, .unset, .unset, .unset, .unset, .unset] [(.int (1 : Int32)), (.int (2 : Int32)), (.ref b104)]))
  refine Done.step (fun t k => XS.iload X131.here hx rfl (hb hby at_67) rfl k) ?_
  show Done p e below s _ _ _ (T131.setTop (mkF m 69 #[.val (.int p1), .val (.int p2), .val (.int p3), .val (.int p4), .val (.int p5), .val (.int p6), .val (.int x101), .val (.ref b102), .val (.ref b104), .val (.ref b109), .unset, .unset, .unset, .unset, .unset, .unset, .unset, .unset] [(.int p5), (.int (1 : Int32)), (.int (2 : Int32)), (.ref b104)]))
  refine Done.step (X131.ldcInt hx hown (mvT hZ (hw _ (List.mem_of_getElem? (i := 1) rfl))) (g := (mkF m 69 #[.val (.int p1), .val (.int p2), .val (.int p3), .val (.int p4), .val (.int p5), .val (.int p6), .val (.int x101), .val (.ref b102), .val (.ref b104), .val (.ref b109), .unset, .unset, .unset, .unset, .unset, .unset, .unset, .unset] [(.int p5), (.int (1 : Int32)), (.int (2 : Int32)), (.ref b104)])) rfl (hb hby at_69)) ?_
  show Done p e below s _ _ _ (T131.setTop (mkF m 71 #[.val (.int p1), .val (.int p2), .val (.int p3), .val (.int p4), .val (.int p5), .val (.int p6), .val (.int x101), .val (.ref b102), .val (.ref b104), .val (.ref b109), .unset, .unset, .unset, .unset, .unset, .unset, .unset, .unset] [(.int (2147483647 : Int32)), (.int p5), (.int (1 : Int32)), (.int (2 : Int32)), (.ref b104)]))
  refine Done.step (fun t k => XS.iand X131.here hx rfl (hb hby at_71) rfl k) ?_
  show Done p e below s _ _ _ (T131.setTop (mkF m 72 #[.val (.int p1), .val (.int p2), .val (.int p3), .val (.int p4), .val (.int p5), .val (.int p6), .val (.int x101), .val (.ref b102), .val (.ref b104), .val (.ref b109), .unset, .unset, .unset, .unset, .unset, .unset, .unset, .unset] [(.int (p5 &&& (2147483647 : Int32))), (.int (1 : Int32)), (.int (2 : Int32)), (.ref b104)]))
  refine Done.step (fun t k => XS.iload X131.here hx rfl (hb hby at_72) rfl k) ?_
  show Done p e below s _ _ _ (T131.setTop (mkF m 74 #[.val (.int p1), .val (.int p2), .val (.int p3), .val (.int p4), .val (.int p5), .val (.int p6), .val (.int x101), .val (.ref b102), .val (.ref b104), .val (.ref b109), .unset, .unset, .unset, .unset, .unset, .unset, .unset, .unset] [(.int x101), (.int (p5 &&& (2147483647 : Int32))), (.int (1 : Int32)), (.int (2 : Int32)), (.ref b104)]))
  refine Done.step (fun t k => iremM X131 hx rfl (hb hby at_74) rfl hv0 k) ?_
  show Done p e below s _ _ _ (T131.setTop (mkF m 75 #[.val (.int p1), .val (.int p2), .val (.int p3), .val (.int p4), .val (.int p5), .val (.int p6), .val (.int x101), .val (.ref b102), .val (.ref b104), .val (.ref b109), .unset, .unset, .unset, .unset, .unset, .unset, .unset, .unset] [(.int ((p5 &&& (2147483647 : Int32)) % x101)), (.int (1 : Int32)), (.int (2 : Int32)), (.ref b104)]))
  refine Done.step (fun t k => XS.iadd X131.here hx rfl (hb hby at_75) rfl k) ?_
  show Done p e below s _ _ _ (T131.setTop (mkF m 76 #[.val (.int p1), .val (.int p2), .val (.int p3), .val (.int p4), .val (.int p5), .val (.int p6), .val (.int x101), .val (.ref b102), .val (.ref b104), .val (.ref b109), .unset, .unset, .unset, .unset, .unset, .unset, .unset, .unset] [(.int ((1 : Int32) + ((p5 &&& (2147483647 : Int32)) % x101))), (.int (2 : Int32)), (.ref b104)]))
  generalize ds2 : ((1 : Int32) + ((p5 &&& (2147483647 : Int32)) % x101)) = s2
  show Done p e below s _ _ _ (T131.setTop (mkF m 76 #[.val (.int p1), .val (.int p2), .val (.int p3), .val (.int p4), .val (.int p5), .val (.int p6), .val (.int x101), .val (.ref b102), .val (.ref b104), .val (.ref b109), .unset, .unset, .unset, .unset, .unset, .unset, .unset, .unset] [(.int s2), (.int (2 : Int32)), (.ref b104)]))
  have hs2 := own_f p5 x101 s2 vv ds2 hv hv1
  obtain ⟨T138, h138, X138, e138, W138, A138, st138⟩ := stoI X131 hx hZ e131 f135 (j := (2 : Int32)) (by decide) (i := 2) (by decide) (Nat.le_of_ble_eq_true rfl) (g := (mkF m 76 #[.val (.int p1), .val (.int p2), .val (.int p3), .val (.int p4), .val (.int p5), .val (.int p6), .val (.int x101), .val (.ref b102), .val (.ref b104), .val (.ref b109), .unset, .unset, .unset, .unset, .unset, .unset, .unset, .unset] [(.int s2), (.int (2 : Int32)), (.ref b104)])) rfl rfl (hb hby at_76)
  have f139 : Exa Z h138 b102 "[I" := f132.wr W138
  have f140 : Ax Z h138 b102 .int [(.int (0 : Int32)), (.int f1), (.int f2)] := f133.other W138 ne105
  have f141 : Exa Z h138 b104 "[I" := f134.wr W138
  have f142 : Ax Z h138 b104 .int [(.int (0 : Int32)), (.int s1), (.int s2)] := A138
  have f143 : Exa Z h138 b109 "[I" := f136.wr W138
  have f144 : Ax Z h138 b109 .int [(.int (0 : Int32)), (.int (0 : Int32)), (.int (0 : Int32))] := f137.other W138 (Ne.symm ne111)
  have Z138 : n0 ≤ h138.size := Nat.le_trans Z131 (Keep.of_wr W138).1
  have N138 := Fr.snoc X138 N131 g_b104
  refine Done.step st138 ?_
  show Done p e below s _ _ _ (T138.setTop (mkF m 77 #[.val (.int p1), .val (.int p2), .val (.int p3), .val (.int p4), .val (.int p5), .val (.int p6), .val (.int x101), .val (.ref b102), .val (.ref b104), .val (.ref b109), .unset, .unset, .unset, .unset, .unset, .unset, .unset, .unset] []))
  refine Done.step (fun t k => XS.aload X138.here hx rfl (hb hby at_77) rfl rfl k) ?_
  show Done p e below s _ _ _ (T138.setTop (mkF m 79 #[.val (.int p1), .val (.int p2), .val (.int p3), .val (.int p4), .val (.int p5), .val (.int p6), .val (.int x101), .val (.ref b102), .val (.ref b104), .val (.ref b109), .unset, .unset, .unset, .unset, .unset, .unset, .unset, .unset] [(.ref b109)]))
  refine Done.step (fun t k => XS.iconst X138.here hx rfl (hb hby at_79) k) ?_
  show Done p e below s _ _ _ (T138.setTop (mkF m 80 #[.val (.int p1), .val (.int p2), .val (.int p3), .val (.int p4), .val (.int p5), .val (.int p6), .val (.int x101), .val (.ref b102), .val (.ref b104), .val (.ref b109), .unset, .unset, .unset, .unset, .unset, .unset, .unset, .unset] [(.int (1 : Int32)), (.ref b109)]))
  refine Done.step (fun t k => XS.iconst X138.here hx rfl (hb hby at_80) k) ?_
  show Done p e below s _ _ _ (T138.setTop (mkF m 81 #[.val (.int p1), .val (.int p2), .val (.int p3), .val (.int p4), .val (.int p5), .val (.int p6), .val (.int x101), .val (.ref b102), .val (.ref b104), .val (.ref b109), .unset, .unset, .unset, .unset, .unset, .unset, .unset, .unset] [(.int (1 : Int32)), (.int (1 : Int32)), (.ref b109)]))
  obtain ⟨T145, h145, X145, e145, W145, A145, st145⟩ := stoI X138 hx hZ e138 f144 (j := (1 : Int32)) (by decide) (i := 1) (by decide) (Nat.le_of_ble_eq_true rfl) (g := (mkF m 81 #[.val (.int p1), .val (.int p2), .val (.int p3), .val (.int p4), .val (.int p5), .val (.int p6), .val (.int x101), .val (.ref b102), .val (.ref b104), .val (.ref b109), .unset, .unset, .unset, .unset, .unset, .unset, .unset, .unset] [(.int (1 : Int32)), (.int (1 : Int32)), (.ref b109)])) rfl rfl (hb hby at_81)
  have f146 : Exa Z h145 b102 "[I" := f139.wr W145
  have f147 : Ax Z h145 b102 .int [(.int (0 : Int32)), (.int f1), (.int f2)] := f140.other W145 ne110
  have f148 : Exa Z h145 b104 "[I" := f141.wr W145
  have f149 : Ax Z h145 b104 .int [(.int (0 : Int32)), (.int s1), (.int s2)] := f142.other W145 ne111
  have f150 : Exa Z h145 b109 "[I" := f143.wr W145
  have f151 : Ax Z h145 b109 .int [(.int (0 : Int32)), (.int (1 : Int32)), (.int (0 : Int32))] := A145
  have Z145 : n0 ≤ h145.size := Nat.le_trans Z138 (Keep.of_wr W145).1
  have N145 := Fr.snoc X145 N138 g_b109
  refine Done.step st145 ?_
  show Done p e below s _ _ _ (T145.setTop (mkF m 82 #[.val (.int p1), .val (.int p2), .val (.int p3), .val (.int p4), .val (.int p5), .val (.int p6), .val (.int x101), .val (.ref b102), .val (.ref b104), .val (.ref b109), .unset, .unset, .unset, .unset, .unset, .unset, .unset, .unset] []))
  refine Done.step (fun t k => XS.aload X145.here hx rfl (hb hby at_82) rfl rfl k) ?_
  show Done p e below s _ _ _ (T145.setTop (mkF m 84 #[.val (.int p1), .val (.int p2), .val (.int p3), .val (.int p4), .val (.int p5), .val (.int p6), .val (.int x101), .val (.ref b102), .val (.ref b104), .val (.ref b109), .unset, .unset, .unset, .unset, .unset, .unset, .unset, .unset] [(.ref b109)]))
  refine Done.step (fun t k => XS.iconst X145.here hx rfl (hb hby at_84) k) ?_
  show Done p e below s _ _ _ (T145.setTop (mkF m 85 #[.val (.int p1), .val (.int p2), .val (.int p3), .val (.int p4), .val (.int p5), .val (.int p6), .val (.int x101), .val (.ref b102), .val (.ref b104), .val (.ref b109), .unset, .unset, .unset, .unset, .unset, .unset, .unset, .unset] [(.int (2 : Int32)), (.ref b109)]))
  refine Done.step (fun t k => XS.iconst X145.here hx rfl (hb hby at_85) k) ?_
  show Done p e below s _ _ _ (T145.setTop (mkF m 86 #[.val (.int p1), .val (.int p2), .val (.int p3), .val (.int p4), .val (.int p5), .val (.int p6), .val (.int x101), .val (.ref b102), .val (.ref b104), .val (.ref b109), .unset, .unset, .unset, .unset, .unset, .unset, .unset, .unset] [(.int (1 : Int32)), (.int (2 : Int32)), (.ref b109)]))
  obtain ⟨T152, h152, X152, e152, W152, A152, st152⟩ := stoI X145 hx hZ e145 f151 (j := (2 : Int32)) (by decide) (i := 2) (by decide) (Nat.le_of_ble_eq_true rfl) (g := (mkF m 86 #[.val (.int p1), .val (.int p2), .val (.int p3), .val (.int p4), .val (.int p5), .val (.int p6), .val (.int x101), .val (.ref b102), .val (.ref b104), .val (.ref b109), .unset, .unset, .unset, .unset, .unset, .unset, .unset, .unset] [(.int (1 : Int32)), (.int (2 : Int32)), (.ref b109)])) rfl rfl (hb hby at_86)
  have f153 : Exa Z h152 b102 "[I" := f146.wr W152
  have f154 : Ax Z h152 b102 .int [(.int (0 : Int32)), (.int f1), (.int f2)] := f147.other W152 ne110
  have f155 : Exa Z h152 b104 "[I" := f148.wr W152
  have f156 : Ax Z h152 b104 .int [(.int (0 : Int32)), (.int s1), (.int s2)] := f149.other W152 ne111
  have f157 : Exa Z h152 b109 "[I" := f150.wr W152
  have f158 : Ax Z h152 b109 .int [(.int (0 : Int32)), (.int (1 : Int32)), (.int (1 : Int32))] := A152
  have Z152 : n0 ≤ h152.size := Nat.le_trans Z145 (Keep.of_wr W152).1
  have N152 := Fr.snoc X152 N145 g_b109
  refine Done.step st152 ?_
  show Done p e below s _ _ _ (T152.setTop (mkF m 87 #[.val (.int p1), .val (.int p2), .val (.int p3), .val (.int p4), .val (.int p5), .val (.int p6), .val (.int x101), .val (.ref b102), .val (.ref b104), .val (.ref b109), .unset, .unset, .unset, .unset, .unset, .unset, .unset, .unset] []))
  obtain ⟨T159, h159, X159, e159, E159, A159, D159, -, st159⟩ := newO X152 hx hZ hown (hw _ (List.mem_of_getElem? (i := 2) rfl)) (hw _ (List.mem_of_getElem? (i := 3) rfl)) (hw _ (List.mem_of_getElem? (i := 4) rfl)) e152 (g := (mkF m 87 #[.val (.int p1), .val (.int p2), .val (.int p3), .val (.int p4), .val (.int p5), .val (.int p6), .val (.int x101), .val (.ref b102), .val (.ref b104), .val (.ref b109), .unset, .unset, .unset, .unset, .unset, .unset, .unset, .unset] [])) rfl (hb hby at_87) (by decide) (by decide)
  obtain ⟨b159, gq159⟩ : ∃ z, z = h152.size := ⟨_, rfl⟩
  rw [← gq159] at A159 D159 st159
  have ne160 : b102 ≠ b159 := Nat.ne_of_lt (Nat.lt_of_lt_of_le f153.lt (Nat.le_of_eq gq159.symm))
  have ne161 : b104 ≠ b159 := Nat.ne_of_lt (Nat.lt_of_lt_of_le f155.lt (Nat.le_of_eq gq159.symm))
  have ne162 : b109 ≠ b159 := Nat.ne_of_lt (Nat.lt_of_lt_of_le f157.lt (Nat.le_of_eq gq159.symm))
  have f163 : Exa Z h159 b102 "[I" := f153.ext E159
  have f164 : Ax Z h159 b102 .int [(.int (0 : Int32)), (.int f1), (.int f2)] := f154.ext E159
  have f165 : Exa Z h159 b104 "[I" := f155.ext E159
  have f166 : Ax Z h159 b104 .int [(.int (0 : Int32)), (.int s1), (.int s2)] := f156.ext E159
  have f167 : Exa Z h159 b109 "[I" := f157.ext E159
  have f168 : Ax Z h159 b109 .int [(.int (0 : Int32)), (.int (1 : Int32)), (.int (1 : Int32))] := f158.ext E159
  have g_b159 : n0 ≤ b159 := Nat.le_trans Z152 (Nat.le_of_eq gq159.symm)
  have Z159 : n0 ≤ h159.size := Nat.le_trans Z152 E159.1
  have f169 : Fld Z h159 b159 "com/example/dendrocover/dendrocover/Network" "vertexCount" "I" (.int (0 : Int32)) := D159 (Or.inr (hw _ (List.mem_of_getElem? (i := 12) rfl))) (ty := .int) (by decide)
  have f170 : Fld Z h159 b159 "com/example/dendrocover/dendrocover/Network" "roadCount" "I" (.int (0 : Int32)) := D159 (Or.inr (hw _ (List.mem_of_getElem? (i := 14) rfl))) (ty := .int) (by decide)
  have f171 : Fld Z h159 b159 "com/example/dendrocover/dendrocover/Network" "firstEnd" "[I" .null := D159 (Or.inr (hw _ (List.mem_of_getElem? (i := 16) rfl))) (ty := (.array .int)) (by decide)
  have f172 : Fld Z h159 b159 "com/example/dendrocover/dendrocover/Network" "secondEnd" "[I" .null := D159 (Or.inr (hw _ (List.mem_of_getElem? (i := 18) rfl))) (ty := (.array .int)) (by decide)
  have f173 : Fld Z h159 b159 "com/example/dendrocover/dendrocover/Network" "length" "[I" .null := D159 (Or.inr (hw _ (List.mem_of_getElem? (i := 20) rfl))) (ty := (.array .int)) (by decide)
  have f174 : Fld Z h159 b159 "com/example/dendrocover/dendrocover/Network" "incidenceStart" "[I" .null := D159 (Or.inr (hw _ (List.mem_of_getElem? (i := 22) rfl))) (ty := (.array .int)) (by decide)
  have f175 : Fld Z h159 b159 "com/example/dendrocover/dendrocover/Network" "incident" "[I" .null := D159 (Or.inr (hw _ (List.mem_of_getElem? (i := 24) rfl))) (ty := (.array .int)) (by decide)
  refine Done.step st159 ?_
  show Done p e below s _ _ _ (T159.setTop (mkF m 90 #[.val (.int p1), .val (.int p2), .val (.int p3), .val (.int p4), .val (.int p5), .val (.int p6), .val (.int x101), .val (.ref b102), .val (.ref b104), .val (.ref b109), .unset, .unset, .unset, .unset, .unset, .unset, .unset, .unset] [(.ref b159)]))
  refine Done.step (fun t k => XS.dup X159.here hx rfl (hb hby at_90) rfl rfl k) ?_
  show Done p e below s _ _ _ (T159.setTop (mkF m 91 #[.val (.int p1), .val (.int p2), .val (.int p3), .val (.int p4), .val (.int p5), .val (.int p6), .val (.int x101), .val (.ref b102), .val (.ref b104), .val (.ref b109), .unset, .unset, .unset, .unset, .unset, .unset, .unset, .unset] [(.ref b159), (.ref b159)]))
  refine Done.step (fun t k => XS.iload X159.here hx rfl (hb hby at_91) rfl k) ?_
  show Done p e below s _ _ _ (T159.setTop (mkF m 93 #[.val (.int p1), .val (.int p2), .val (.int p3), .val (.int p4), .val (.int p5), .val (.int p6), .val (.int x101), .val (.ref b102), .val (.ref b104), .val (.ref b109), .unset, .unset, .unset, .unset, .unset, .unset, .unset, .unset] [(.int x101), (.ref b159), (.ref b159)]))
  refine Done.step (fun t k => XS.iconst X159.here hx rfl (hb hby at_93) k) ?_
  show Done p e below s _ _ _ (T159.setTop (mkF m 94 #[.val (.int p1), .val (.int p2), .val (.int p3), .val (.int p4), .val (.int p5), .val (.int p6), .val (.int x101), .val (.ref b102), .val (.ref b104), .val (.ref b109), .unset, .unset, .unset, .unset, .unset, .unset, .unset, .unset] [(.int (2 : Int32)), (.int x101), (.ref b159), (.ref b159)]))
  refine Done.step (fun t k => XS.aload X159.here hx rfl (hb hby at_94) rfl rfl k) ?_
  show Done p e below s _ _ _ (T159.setTop (mkF m 96 #[.val (.int p1), .val (.int p2), .val (.int p3), .val (.int p4), .val (.int p5), .val (.int p6), .val (.int x101), .val (.ref b102), .val (.ref b104), .val (.ref b109), .unset, .unset, .unset, .unset, .unset, .unset, .unset, .unset] [(.ref b102), (.int (2 : Int32)), (.int x101), (.ref b159), (.ref b159)]))
  refine Done.step (fun t k => XS.aload X159.here hx rfl (hb hby at_96) rfl rfl k) ?_
  show Done p e below s _ _ _ (T159.setTop (mkF m 98 #[.val (.int p1), .val (.int p2), .val (.int p3), .val (.int p4), .val (.int p5), .val (.int p6), .val (.int x101), .val (.ref b102), .val (.ref b104), .val (.ref b109), .unset, .unset, .unset, .unset, .unset, .unset, .unset, .unset] [(.ref b104), (.ref b102), (.int (2 : Int32)), (.int x101), (.ref b159), (.ref b159)]))
  refine Done.step (fun t k => XS.aload X159.here hx rfl (hb hby at_98) rfl rfl k) ?_
  show Done p e below s _ _ _ (T159.setTop (mkF m 100 #[.val (.int p1), .val (.int p2), .val (.int p3), .val (.int p4), .val (.int p5), .val (.int p6), .val (.int x101), .val (.ref b102), .val (.ref b104), .val (.ref b109), .unset, .unset, .unset, .unset, .unset, .unset, .unset, .unset] [(.ref b109), (.ref b104), (.ref b102), (.int (2 : Int32)), (.int x101), (.ref b159), (.ref b159)]))
  obtain ⟨v176, _, ⟨T176, L176, k176, n176⟩, -, X176, ⟨Lc176, hQ176, l176, y176, z176⟩, st176⟩ := X159.specialBack hx (y := (⟨"com/example/dendrocover/dendrocover/Network", "<init>", "(II[I[I[I)V"⟩ : MethodName)) rfl hown (mvT hZ (hw _ (List.mem_of_getElem? (i := 5) rfl))) (mvT hZ (hw _ (List.mem_of_getElem? (i := 6) rfl))) (mvT hZ (hw _ (List.mem_of_getElem? (i := 7) rfl))) (by decide) (backOf (W := 1) (rm1 l Z a0 hw [] b159 x101 (2 : Int32) b102 b104 b109 [(0 : Int32), f1, f2] [(0 : Int32), s1, s2] 2 vv h159 n0 Z159 A159 f169 f170 f171 f172 f173 f174 f175 f164 (Ne.symm ne160) f166 (Ne.symm ne161) g_b159 hv hv2 rfl (Nat.le_refl _) (Nat.le_of_ble_eq_true rfl) (Nat.le_of_ble_eq_true rfl) (own_in2 hf1 hf2) (own_in2 hs1 hs2)) hZ (hw _ (List.mem_of_getElem? (i := 7) rfl)) (hw _ (List.mem_of_getElem? (i := 4) rfl)) (by decide) (by decide)) (g := (mkF m 100 #[.val (.int p1), .val (.int p2), .val (.int p3), .val (.int p4), .val (.int p5), .val (.int p6), .val (.int x101), .val (.ref b102), .val (.ref b104), .val (.ref b109), .unset, .unset, .unset, .unset, .unset, .unset, .unset, .unset] [(.ref b109), (.ref b104), (.ref b102), (.int (2 : Int32)), (.int x101), (.ref b159), (.ref b159)])) rfl (by rw [hml]; rfl) (Steps.refl _) (a := b159) (argsL := [(.int x101), (.int (2 : Int32)), (.ref b102), (.ref b104), (.ref b109)]) (rest := [(.ref b159)]) (lenOf pd_0 rfl) rfl (by show 2 * 0 + _ ≤ _; exact Nat.le_of_eq rfl) (hb hby at_100) (fun _ _ => ⟨rfl, e159, (by decide : 4 + 2 ≤ _), (by decide : 16 + 262 ≤ _)⟩)
  dsimp only [Pt.U, Pt.locs, Pt.cells, Pt.slots] at X176 l176 y176 z176 st176 hQ176
  subst l176 y176 z176
  refine Done.far st176 ?_
  obtain ⟨rfl, N176q, K176q, x176, y176_0, y176_1, y176_2, y176_3⟩ := hQ176
  have N176 := Fr.app N152 N176q
  have f177 : Exa Z T176.heap b102 "[I" := f163.keep K176q
  have f178 : Ax Z T176.heap b102 .int [(.int (0 : Int32)), (.int f1), (.int f2)] := f164.keep K176q (ninS ne160 nin0)
  have f179 : Exa Z T176.heap b104 "[I" := f165.keep K176q
  have f180 : Ax Z T176.heap b104 .int [(.int (0 : Int32)), (.int s1), (.int s2)] := f166.keep K176q (ninS ne161 nin0)
  have f181 : Exa Z T176.heap b109 "[I" := f167.keep K176q
  have f182 : Ax Z T176.heap b109 .int [(.int (0 : Int32)), (.int (1 : Int32)), (.int (1 : Int32))] := f168.keep K176q (ninS ne162 nin0)
  have f183 : Exa Z T176.heap b159 "com/example/dendrocover/dendrocover/Network" := A159.keep K176q
  have Zk176 : n0 ≤ T176.heap.size := Nat.le_trans Z159 K176q.1
  show Done p e below s _ _ _ (T176.setTop (mkF m 103 #[.val (.int p1), .val (.int p2), .val (.int p3), .val (.int p4), .val (.int p5), .val (.int p6), .val (.int x101), .val (.ref b102), .val (.ref b104), .val (.ref b109), .unset, .unset, .unset, .unset, .unset, .unset, .unset, .unset] [(.ref b159)]))
  refine Done.step (fun t k => XS.astore X176.here hx rfl (hb hby at_103) rfl rfl (l' := #[.val (.int p1), .val (.int p2), .val (.int p3), .val (.int p4), .val (.int p5), .val (.int p6), .val (.int x101), .val (.ref b102), .val (.ref b104), .val (.ref b109), .val (.ref b159), .unset, .unset, .unset, .unset, .unset, .unset, .unset]) rfl k) ?_
  show Done p e below s _ _ _ (T176.setTop (mkF m 105 #[.val (.int p1), .val (.int p2), .val (.int p3), .val (.int p4), .val (.int p5), .val (.int p6), .val (.int x101), .val (.ref b102), .val (.ref b104), .val (.ref b109), .val (.ref b159), .unset, .unset, .unset, .unset, .unset, .unset, .unset] []))
  refine Done.step (fun t k => XS.iconst X176.here hx rfl (hb hby at_105) k) ?_
  show Done p e below s _ _ _ (T176.setTop (mkF m 106 #[.val (.int p1), .val (.int p2), .val (.int p3), .val (.int p4), .val (.int p5), .val (.int p6), .val (.int x101), .val (.ref b102), .val (.ref b104), .val (.ref b109), .val (.ref b159), .unset, .unset, .unset, .unset, .unset, .unset, .unset] [(.int (1 : Int32))]))
  refine Done.step (fun t k => XS.iload X176.here hx rfl (hb hby at_106) rfl k) ?_
  show Done p e below s _ _ _ (T176.setTop (mkF m 108 #[.val (.int p1), .val (.int p2), .val (.int p3), .val (.int p4), .val (.int p5), .val (.int p6), .val (.int x101), .val (.ref b102), .val (.ref b104), .val (.ref b109), .val (.ref b159), .unset, .unset, .unset, .unset, .unset, .unset, .unset] [(.int p6), (.int (1 : Int32))]))
  refine Done.step (fun t k => XS.iconst X176.here hx rfl (hb hby at_108) k) ?_
  show Done p e below s _ _ _ (T176.setTop (mkF m 109 #[.val (.int p1), .val (.int p2), .val (.int p3), .val (.int p4), .val (.int p5), .val (.int p6), .val (.int x101), .val (.ref b102), .val (.ref b104), .val (.ref b109), .val (.ref b159), .unset, .unset, .unset, .unset, .unset, .unset, .unset] [(.int (1 : Int32)), (.int p6), (.int (1 : Int32))]))
  refine Done.step (fun t k => XS.iand X176.here hx rfl (hb hby at_109) rfl k) ?_
  show Done p e below s _ _ _ (T176.setTop (mkF m 110 #[.val (.int p1), .val (.int p2), .val (.int p3), .val (.int p4), .val (.int p5), .val (.int p6), .val (.int x101), .val (.ref b102), .val (.ref b104), .val (.ref b109), .val (.ref b159), .unset, .unset, .unset, .unset, .unset, .unset, .unset] [(.int (p6 &&& (1 : Int32))), (.int (1 : Int32))]))
  refine Done.step (fun t k => XS.iadd X176.here hx rfl (hb hby at_110) rfl k) ?_
  show Done p e below s _ _ _ (T176.setTop (mkF m 111 #[.val (.int p1), .val (.int p2), .val (.int p3), .val (.int p4), .val (.int p5), .val (.int p6), .val (.int x101), .val (.ref b102), .val (.ref b104), .val (.ref b109), .val (.ref b159), .unset, .unset, .unset, .unset, .unset, .unset, .unset] [(.int ((1 : Int32) + (p6 &&& (1 : Int32))))]))
  generalize dx184 : ((1 : Int32) + (p6 &&& (1 : Int32))) = x184
  show Done p e below s _ _ _ (T176.setTop (mkF m 111 #[.val (.int p1), .val (.int p2), .val (.int p3), .val (.int p4), .val (.int p5), .val (.int p6), .val (.int x101), .val (.ref b102), .val (.ref b104), .val (.ref b109), .val (.ref b159), .unset, .unset, .unset, .unset, .unset, .unset, .unset] [(.int x184)]))
  refine Done.step (fun t k => XS.istore X176.here hx rfl (hb hby at_111) rfl (l' := #[.val (.int p1), .val (.int p2), .val (.int p3), .val (.int p4), .val (.int p5), .val (.int p6), .val (.int x101), .val (.ref b102), .val (.ref b104), .val (.ref b109), .val (.ref b159), .val (.int x184), .unset, .unset, .unset, .unset, .unset, .unset]) rfl k) ?_
  show Done p e below s _ _ _ (T176.setTop (mkF m 113 #[.val (.int p1), .val (.int p2), .val (.int p3), .val (.int p4), .val (.int p5), .val (.int p6), .val (.int x101), .val (.ref b102), .val (.ref b104), .val (.ref b109), .val (.ref b159), .val (.int x184), .unset, .unset, .unset, .unset, .unset, .unset] []))
  obtain rfl | rfl := own_road p6 x184 dx184
  · show Done p e below s _ _ _ (T176.setTop (mkF m 113 #[.val (.int p1), .val (.int p2), .val (.int p3), .val (.int p4), .val (.int p5), .val (.int p6), .val (.int x101), .val (.ref b102), .val (.ref b104), .val (.ref b109), .val (.ref b159), .val (.int (1 : Int32)), .unset, .unset, .unset, .unset, .unset, .unset] []))
    refine Done.step (fun t k => XS.iload X176.here hx rfl (hb hby at_113) rfl k) ?_
    show Done p e below s _ _ _ (T176.setTop (mkF m 115 #[.val (.int p1), .val (.int p2), .val (.int p3), .val (.int p4), .val (.int p5), .val (.int p6), .val (.int x101), .val (.ref b102), .val (.ref b104), .val (.ref b109), .val (.ref b159), .val (.int (1 : Int32)), .unset, .unset, .unset, .unset, .unset, .unset] [(.int p6)]))
    refine Done.step (fun t k => XS.iconst X176.here hx rfl (hb hby at_115) k) ?_
    show Done p e below s _ _ _ (T176.setTop (mkF m 116 #[.val (.int p1), .val (.int p2), .val (.int p3), .val (.int p4), .val (.int p5), .val (.int p6), .val (.int x101), .val (.ref b102), .val (.ref b104), .val (.ref b109), .val (.ref b159), .val (.int (1 : Int32)), .unset, .unset, .unset, .unset, .unset, .unset] [(.int (2 : Int32)), (.int p6)]))
    refine Done.step (fun t k => XS.iand X176.here hx rfl (hb hby at_116) rfl k) ?_
    show Done p e below s _ _ _ (T176.setTop (mkF m 117 #[.val (.int p1), .val (.int p2), .val (.int p3), .val (.int p4), .val (.int p5), .val (.int p6), .val (.int x101), .val (.ref b102), .val (.ref b104), .val (.ref b109), .val (.ref b159), .val (.int (1 : Int32)), .unset, .unset, .unset, .unset, .unset, .unset] [(.int (p6 &&& (2 : Int32)))]))
    by_cases c1 : (p6 &&& (2 : Int32)) = (0 : Int32)
    · refine Done.step (fun t k => XS.ifYes X176.here hx rfl (pc0 := 117) (pc' := 124) rfl (hb hby at_117) rfl ((if0 _ _).trans (teq c1).1) (by decide) (by decide) k) ?_
      show Done p e below s _ _ _ (T176.setTop (mkF m 124 #[.val (.int p1), .val (.int p2), .val (.int p3), .val (.int p4), .val (.int p5), .val (.int p6), .val (.int x101), .val (.ref b102), .val (.ref b104), .val (.ref b109), .val (.ref b159), .val (.int (1 : Int32)), .unset, .unset, .unset, .unset, .unset, .unset] []))
      refine Done.step (fun t k => XS.iconst X176.here hx rfl (hb hby at_124) k) ?_
      show Done p e below s _ _ _ (T176.setTop (mkF m 125 #[.val (.int p1), .val (.int p2), .val (.int p3), .val (.int p4), .val (.int p5), .val (.int p6), .val (.int x101), .val (.ref b102), .val (.ref b104), .val (.ref b109), .val (.ref b159), .val (.int (1 : Int32)), .unset, .unset, .unset, .unset, .unset, .unset] [(.int (0 : Int32))]))
      refine Done.step (fun t k => XS.istore X176.here hx rfl (hb hby at_125) rfl (l' := #[.val (.int p1), .val (.int p2), .val (.int p3), .val (.int p4), .val (.int p5), .val (.int p6), .val (.int x101), .val (.ref b102), .val (.ref b104), .val (.ref b109), .val (.ref b159), .val (.int (1 : Int32)), .val (.int (0 : Int32)), .unset, .unset, .unset, .unset, .unset]) rfl k) ?_
      show Done p e below s _ _ _ (T176.setTop (mkF m 127 #[.val (.int p1), .val (.int p2), .val (.int p3), .val (.int p4), .val (.int p5), .val (.int p6), .val (.int x101), .val (.ref b102), .val (.ref b104), .val (.ref b109), .val (.ref b159), .val (.int (1 : Int32)), .val (.int (0 : Int32)), .unset, .unset, .unset, .unset, .unset] []))
      refine Done.step (fun t k => XS.aload X176.here hx rfl (hb hby at_127) rfl rfl k) ?_
      show Done p e below s _ _ _ (T176.setTop (mkF m 129 #[.val (.int p1), .val (.int p2), .val (.int p3), .val (.int p4), .val (.int p5), .val (.int p6), .val (.int x101), .val (.ref b102), .val (.ref b104), .val (.ref b109), .val (.ref b159), .val (.int (1 : Int32)), .val (.int (0 : Int32)), .unset, .unset, .unset, .unset, .unset] [(.ref b102)]))
      refine Done.step (fun t k => XS.iload X176.here hx rfl (hb hby at_129) rfl k) ?_
      show Done p e below s _ _ _ (T176.setTop (mkF m 131 #[.val (.int p1), .val (.int p2), .val (.int p3), .val (.int p4), .val (.int p5), .val (.int p6), .val (.int x101), .val (.ref b102), .val (.ref b104), .val (.ref b109), .val (.ref b159), .val (.int (1 : Int32)), .val (.int (0 : Int32)), .unset, .unset, .unset, .unset, .unset] [(.int (1 : Int32)), (.ref b102)]))
      refine Done.step (ldI X176 hx hZ rfl f178 (j := (1 : Int32)) (x := (.int f1)) (by decide) rfl (g := (mkF m 131 #[.val (.int p1), .val (.int p2), .val (.int p3), .val (.int p4), .val (.int p5), .val (.int p6), .val (.int x101), .val (.ref b102), .val (.ref b104), .val (.ref b109), .val (.ref b159), .val (.int (1 : Int32)), .val (.int (0 : Int32)), .unset, .unset, .unset, .unset, .unset] [(.int (1 : Int32)), (.ref b102)])) rfl rfl (hb hby at_131)) ?_
      show Done p e below s _ _ _ (T176.setTop (mkF m 132 #[.val (.int p1), .val (.int p2), .val (.int p3), .val (.int p4), .val (.int p5), .val (.int p6), .val (.int x101), .val (.ref b102), .val (.ref b104), .val (.ref b109), .val (.ref b159), .val (.int (1 : Int32)), .val (.int (0 : Int32)), .unset, .unset, .unset, .unset, .unset] [(.int f1)]))
      refine Done.step (fun t k => XS.istore X176.here hx rfl (hb hby at_132) rfl (l' := #[.val (.int p1), .val (.int p2), .val (.int p3), .val (.int p4), .val (.int p5), .val (.int p6), .val (.int x101), .val (.ref b102), .val (.ref b104), .val (.ref b109), .val (.ref b159), .val (.int (1 : Int32)), .val (.int (0 : Int32)), .val (.int f1), .unset, .unset, .unset, .unset]) rfl k) ?_
      show Done p e below s _ _ _ (T176.setTop (mkF m 134 #[.val (.int p1), .val (.int p2), .val (.int p3), .val (.int p4), .val (.int p5), .val (.int p6), .val (.int x101), .val (.ref b102), .val (.ref b104), .val (.ref b109), .val (.ref b159), .val (.int (1 : Int32)), .val (.int (0 : Int32)), .val (.int f1), .unset, .unset, .unset, .unset] []))
      refine Done.step (fun t k => XS.aload X176.here hx rfl (hb hby at_134) rfl rfl k) ?_
      show Done p e below s _ _ _ (T176.setTop (mkF m 136 #[.val (.int p1), .val (.int p2), .val (.int p3), .val (.int p4), .val (.int p5), .val (.int p6), .val (.int x101), .val (.ref b102), .val (.ref b104), .val (.ref b109), .val (.ref b159), .val (.int (1 : Int32)), .val (.int (0 : Int32)), .val (.int f1), .unset, .unset, .unset, .unset] [(.ref b104)]))
      refine Done.step (fun t k => XS.iload X176.here hx rfl (hb hby at_136) rfl k) ?_
      show Done p e below s _ _ _ (T176.setTop (mkF m 138 #[.val (.int p1), .val (.int p2), .val (.int p3), .val (.int p4), .val (.int p5), .val (.int p6), .val (.int x101), .val (.ref b102), .val (.ref b104), .val (.ref b109), .val (.ref b159), .val (.int (1 : Int32)), .val (.int (0 : Int32)), .val (.int f1), .unset, .unset, .unset, .unset] [(.int (1 : Int32)), (.ref b104)]))
      refine Done.step (ldI X176 hx hZ rfl f180 (j := (1 : Int32)) (x := (.int s1)) (by decide) rfl (g := (mkF m 138 #[.val (.int p1), .val (.int p2), .val (.int p3), .val (.int p4), .val (.int p5), .val (.int p6), .val (.int x101), .val (.ref b102), .val (.ref b104), .val (.ref b109), .val (.ref b159), .val (.int (1 : Int32)), .val (.int (0 : Int32)), .val (.int f1), .unset, .unset, .unset, .unset] [(.int (1 : Int32)), (.ref b104)])) rfl rfl (hb hby at_138)) ?_
      show Done p e below s _ _ _ (T176.setTop (mkF m 139 #[.val (.int p1), .val (.int p2), .val (.int p3), .val (.int p4), .val (.int p5), .val (.int p6), .val (.int x101), .val (.ref b102), .val (.ref b104), .val (.ref b109), .val (.ref b159), .val (.int (1 : Int32)), .val (.int (0 : Int32)), .val (.int f1), .unset, .unset, .unset, .unset] [(.int s1)]))
      refine Done.step (fun t k => XS.istore X176.here hx rfl (hb hby at_139) rfl (l' := #[.val (.int p1), .val (.int p2), .val (.int p3), .val (.int p4), .val (.int p5), .val (.int p6), .val (.int x101), .val (.ref b102), .val (.ref b104), .val (.ref b109), .val (.ref b159), .val (.int (1 : Int32)), .val (.int (0 : Int32)), .val (.int f1), .val (.int s1), .unset, .unset, .unset]) rfl k) ?_
      show Done p e below s _ _ _ (T176.setTop (mkF m 141 #[.val (.int p1), .val (.int p2), .val (.int p3), .val (.int p4), .val (.int p5), .val (.int p6), .val (.int x101), .val (.ref b102), .val (.ref b104), .val (.ref b109), .val (.ref b159), .val (.int (1 : Int32)), .val (.int (0 : Int32)), .val (.int f1), .val (.int s1), .unset, .unset, .unset] []))
      refine Done.step (fun t k => XS.iload X176.here hx rfl (hb hby at_141) rfl k) ?_
      show Done p e below s _ _ _ (T176.setTop (mkF m 143 #[.val (.int p1), .val (.int p2), .val (.int p3), .val (.int p4), .val (.int p5), .val (.int p6), .val (.int x101), .val (.ref b102), .val (.ref b104), .val (.ref b109), .val (.ref b159), .val (.int (1 : Int32)), .val (.int (0 : Int32)), .val (.int f1), .val (.int s1), .unset, .unset, .unset] [(.int (0 : Int32))]))
      refine Done.step (fun t k => XS.ifYes X176.here hx rfl (pc0 := 143) (pc' := 151) rfl (hb hby at_143) rfl ((if0 _ _).trans (teq (by decide)).1) (by decide) (by decide) k) ?_
      show Done p e below s _ _ _ (T176.setTop (mkF m 151 #[.val (.int p1), .val (.int p2), .val (.int p3), .val (.int p4), .val (.int p5), .val (.int p6), .val (.int x101), .val (.ref b102), .val (.ref b104), .val (.ref b109), .val (.ref b159), .val (.int (1 : Int32)), .val (.int (0 : Int32)), .val (.int f1), .val (.int s1), .unset, .unset, .unset] []))
      refine Done.step (fun t k => XS.iload X176.here hx rfl (hb hby at_151) rfl k) ?_
      show Done p e below s _ _ _ (T176.setTop (mkF m 153 #[.val (.int p1), .val (.int p2), .val (.int p3), .val (.int p4), .val (.int p5), .val (.int p6), .val (.int x101), .val (.ref b102), .val (.ref b104), .val (.ref b109), .val (.ref b159), .val (.int (1 : Int32)), .val (.int (0 : Int32)), .val (.int f1), .val (.int s1), .unset, .unset, .unset] [(.int s1)]))
      refine Done.step (fun t k => XS.istore X176.here hx rfl (hb hby at_153) rfl (l' := #[.val (.int p1), .val (.int p2), .val (.int p3), .val (.int p4), .val (.int p5), .val (.int p6), .val (.int x101), .val (.ref b102), .val (.ref b104), .val (.ref b109), .val (.ref b159), .val (.int (1 : Int32)), .val (.int (0 : Int32)), .val (.int f1), .val (.int s1), .val (.int s1), .unset, .unset]) rfl k) ?_
      show Done p e below s _ _ _ (T176.setTop (mkF m 155 #[.val (.int p1), .val (.int p2), .val (.int p3), .val (.int p4), .val (.int p5), .val (.int p6), .val (.int x101), .val (.ref b102), .val (.ref b104), .val (.ref b109), .val (.ref b159), .val (.int (1 : Int32)), .val (.int (0 : Int32)), .val (.int f1), .val (.int s1), .val (.int s1), .unset, .unset] []))
      refine Done.step (fun t k => XS.iload X176.here hx rfl (hb hby at_155) rfl k) ?_
      show Done p e below s _ _ _ (T176.setTop (mkF m 157 #[.val (.int p1), .val (.int p2), .val (.int p3), .val (.int p4), .val (.int p5), .val (.int p6), .val (.int x101), .val (.ref b102), .val (.ref b104), .val (.ref b109), .val (.ref b159), .val (.int (1 : Int32)), .val (.int (0 : Int32)), .val (.int f1), .val (.int s1), .val (.int s1), .unset, .unset] [(.int (0 : Int32))]))
      refine Done.step (fun t k => XS.ifYes X176.here hx rfl (pc0 := 157) (pc' := 165) rfl (hb hby at_157) rfl ((if0 _ _).trans (teq (by decide)).1) (by decide) (by decide) k) ?_
      show Done p e below s _ _ _ (T176.setTop (mkF m 165 #[.val (.int p1), .val (.int p2), .val (.int p3), .val (.int p4), .val (.int p5), .val (.int p6), .val (.int x101), .val (.ref b102), .val (.ref b104), .val (.ref b109), .val (.ref b159), .val (.int (1 : Int32)), .val (.int (0 : Int32)), .val (.int f1), .val (.int s1), .val (.int s1), .unset, .unset] []))
      refine Done.step (fun t k => XS.iload X176.here hx rfl (hb hby at_165) rfl k) ?_
      show Done p e below s _ _ _ (T176.setTop (mkF m 167 #[.val (.int p1), .val (.int p2), .val (.int p3), .val (.int p4), .val (.int p5), .val (.int p6), .val (.int x101), .val (.ref b102), .val (.ref b104), .val (.ref b109), .val (.ref b159), .val (.int (1 : Int32)), .val (.int (0 : Int32)), .val (.int f1), .val (.int s1), .val (.int s1), .unset, .unset] [(.int f1)]))
      refine Done.step (fun t k => XS.istore X176.here hx rfl (hb hby at_167) rfl (l' := #[.val (.int p1), .val (.int p2), .val (.int p3), .val (.int p4), .val (.int p5), .val (.int p6), .val (.int x101), .val (.ref b102), .val (.ref b104), .val (.ref b109), .val (.ref b159), .val (.int (1 : Int32)), .val (.int (0 : Int32)), .val (.int f1), .val (.int s1), .val (.int s1), .val (.int f1), .unset]) rfl k) ?_
      show Done p e below s _ _ _ (T176.setTop (mkF m 169 #[.val (.int p1), .val (.int p2), .val (.int p3), .val (.int p4), .val (.int p5), .val (.int p6), .val (.int x101), .val (.ref b102), .val (.ref b104), .val (.ref b109), .val (.ref b159), .val (.int (1 : Int32)), .val (.int (0 : Int32)), .val (.int f1), .val (.int s1), .val (.int s1), .val (.int f1), .unset] []))
      refine Done.step (fun t k => XS.aload X176.here hx rfl (hb hby at_169) rfl rfl k) ?_
      show Done p e below s _ _ _ (T176.setTop (mkF m 171 #[.val (.int p1), .val (.int p2), .val (.int p3), .val (.int p4), .val (.int p5), .val (.int p6), .val (.int x101), .val (.ref b102), .val (.ref b104), .val (.ref b109), .val (.ref b159), .val (.int (1 : Int32)), .val (.int (0 : Int32)), .val (.int f1), .val (.int s1), .val (.int s1), .val (.int f1), .unset] [(.ref b159)]))
      refine Done.step (fun t k => XS.iload X176.here hx rfl (hb hby at_171) rfl k) ?_
      show Done p e below s _ _ _ (T176.setTop (mkF m 173 #[.val (.int p1), .val (.int p2), .val (.int p3), .val (.int p4), .val (.int p5), .val (.int p6), .val (.int x101), .val (.ref b102), .val (.ref b104), .val (.ref b109), .val (.ref b159), .val (.int (1 : Int32)), .val (.int (0 : Int32)), .val (.int f1), .val (.int s1), .val (.int s1), .val (.int f1), .unset] [(.int (1 : Int32)), (.ref b159)]))
      refine Done.step (fun t k => XS.iload X176.here hx rfl (hb hby at_173) rfl k) ?_
      show Done p e below s _ _ _ (T176.setTop (mkF m 175 #[.val (.int p1), .val (.int p2), .val (.int p3), .val (.int p4), .val (.int p5), .val (.int p6), .val (.int x101), .val (.ref b102), .val (.ref b104), .val (.ref b109), .val (.ref b159), .val (.int (1 : Int32)), .val (.int (0 : Int32)), .val (.int f1), .val (.int s1), .val (.int s1), .val (.int f1), .unset] [(.int s1), (.int (1 : Int32)), (.ref b159)]))
      obtain ⟨cq185, kq185, q185a, q185b, q185c⟩ := isOf hZ rfl f183
      obtain ⟨v185, _, ⟨T185, L185, k185, n185⟩, -, X185, ⟨Lc185, hQ185, l185, y185, z185⟩, st185⟩ := X176.virtualBack hx (y := (⟨"com/example/dendrocover/dendrocover/Network", "otherEnd", "(II)I"⟩ : MethodName)) (z := (⟨"com/example/dendrocover/dendrocover/Network", "otherEnd", "(II)I"⟩ : MethodName)) hown (mvT hZ (hw _ (List.mem_of_getElem? (i := 25) rfl))) (mvT hZ (hw _ (List.mem_of_getElem? (i := 26) rfl))) (notFace_of_selects (args := #[]) (mvT hZ (hw _ (List.mem_of_getElem? (i := 28) rfl)))) (mvT hZ (hw _ (List.mem_of_getElem? (i := 28) rfl))) (mvT hZ (hw _ (List.mem_of_getElem? (i := 27) rfl))) (by decide) (backOf (W := 0) (rm3 l Z a0 hw [] b159 (1 : Int32) s1 b102 b104 [(0 : Int32), f1, f2] [(0 : Int32), s1, s2] f1 s1 T176.heap n0 Zk176 y176_1 y176_2 f178 f180 (by decide) rfl rfl) hZ (hw _ (List.mem_of_getElem? (i := 29) rfl)) (hw _ (List.mem_of_getElem? (i := 4) rfl)) (by decide) (by decide)) q185a q185c (g := (mkF m 175 #[.val (.int p1), .val (.int p2), .val (.int p3), .val (.int p4), .val (.int p5), .val (.int p6), .val (.int x101), .val (.ref b102), .val (.ref b104), .val (.ref b109), .val (.ref b159), .val (.int (1 : Int32)), .val (.int (0 : Int32)), .val (.int f1), .val (.int s1), .val (.int s1), .val (.int f1), .unset] [(.int s1), (.int (1 : Int32)), (.ref b159)])) rfl (by rw [hml]; rfl) (Steps.refl _) (argsL := [(.int (1 : Int32)), (.int s1)]) (rest := []) (lenOf pd_1 rfl) rfl (by show 2 * 0 + _ ≤ _; exact Nat.le_of_eq rfl) (hb hby at_175) (fun _ _ => ⟨rfl, rfl, (by decide : 6 + 0 ≤ _), (by decide : 278 + 0 ≤ _)⟩)
      dsimp only [Pt.U, Pt.locs, Pt.cells, Pt.slots] at X185 l185 y185 z185 st185 hQ185
      subst l185 y185 z185
      refine Done.far st185 ?_
      obtain ⟨rfl, N185q, e185⟩ := hQ185
      have N185 := Fr.app N176 N185q
      show Done p e below s _ _ _ (T185.setTop (mkF m 178 #[.val (.int p1), .val (.int p2), .val (.int p3), .val (.int p4), .val (.int p5), .val (.int p6), .val (.int x101), .val (.ref b102), .val (.ref b104), .val (.ref b109), .val (.ref b159), .val (.int (1 : Int32)), .val (.int (0 : Int32)), .val (.int f1), .val (.int s1), .val (.int s1), .val (.int f1), .unset] [(.int (OE f1 s1 s1))]))
      rw [own_oeB f1 s1]
      show Done p e below s _ _ _ (T185.setTop (mkF m 178 #[.val (.int p1), .val (.int p2), .val (.int p3), .val (.int p4), .val (.int p5), .val (.int p6), .val (.int x101), .val (.ref b102), .val (.ref b104), .val (.ref b109), .val (.ref b159), .val (.int (1 : Int32)), .val (.int (0 : Int32)), .val (.int f1), .val (.int s1), .val (.int s1), .val (.int f1), .unset] [(.int f1)]))
      refine Done.step (fun t k => XS.istore X185.here hx rfl (hb hby at_178) rfl (l' := #[.val (.int p1), .val (.int p2), .val (.int p3), .val (.int p4), .val (.int p5), .val (.int p6), .val (.int x101), .val (.ref b102), .val (.ref b104), .val (.ref b109), .val (.ref b159), .val (.int (1 : Int32)), .val (.int (0 : Int32)), .val (.int f1), .val (.int s1), .val (.int s1), .val (.int f1), .val (.int f1)]) rfl k) ?_
      show Done p e below s _ _ _ (T185.setTop (mkF m 180 #[.val (.int p1), .val (.int p2), .val (.int p3), .val (.int p4), .val (.int p5), .val (.int p6), .val (.int x101), .val (.ref b102), .val (.ref b104), .val (.ref b109), .val (.ref b159), .val (.int (1 : Int32)), .val (.int (0 : Int32)), .val (.int f1), .val (.int s1), .val (.int s1), .val (.int f1), .val (.int f1)] []))
      refine Done.step (fun t k => XS.iload X185.here hx rfl (hb hby at_180) rfl k) ?_
      show Done p e below s _ _ _ (T185.setTop (mkF m 182 #[.val (.int p1), .val (.int p2), .val (.int p3), .val (.int p4), .val (.int p5), .val (.int p6), .val (.int x101), .val (.ref b102), .val (.ref b104), .val (.ref b109), .val (.ref b159), .val (.int (1 : Int32)), .val (.int (0 : Int32)), .val (.int f1), .val (.int s1), .val (.int s1), .val (.int f1), .val (.int f1)] [(.int f1)]))
      refine Done.step (fun t k => XS.iload X185.here hx rfl (hb hby at_182) rfl k) ?_
      show Done p e below s _ _ _ (T185.setTop (mkF m 184 #[.val (.int p1), .val (.int p2), .val (.int p3), .val (.int p4), .val (.int p5), .val (.int p6), .val (.int x101), .val (.ref b102), .val (.ref b104), .val (.ref b109), .val (.ref b159), .val (.int (1 : Int32)), .val (.int (0 : Int32)), .val (.int f1), .val (.int s1), .val (.int s1), .val (.int f1), .val (.int f1)] [(.int f1), (.int f1)]))
      refine Done.step (fun t k => XS.icmpYes X185.here hx rfl (pc0 := 184) (pc' := 189) rfl (hb hby at_184) rfl (teq rfl).1 (by decide) (by decide) k) ?_
      show Done p e below s _ _ _ (T185.setTop (mkF m 189 #[.val (.int p1), .val (.int p2), .val (.int p3), .val (.int p4), .val (.int p5), .val (.int p6), .val (.int x101), .val (.ref b102), .val (.ref b104), .val (.ref b109), .val (.ref b159), .val (.int (1 : Int32)), .val (.int (0 : Int32)), .val (.int f1), .val (.int s1), .val (.int s1), .val (.int f1), .val (.int f1)] []))
      refine Done.step (fun t k => XS.aload X185.here hx rfl (hb hby at_189) rfl rfl k) ?_
      show Done p e below s _ _ _ (T185.setTop (mkF m 191 #[.val (.int p1), .val (.int p2), .val (.int p3), .val (.int p4), .val (.int p5), .val (.int p6), .val (.int x101), .val (.ref b102), .val (.ref b104), .val (.ref b109), .val (.ref b159), .val (.int (1 : Int32)), .val (.int (0 : Int32)), .val (.int f1), .val (.int s1), .val (.int s1), .val (.int f1), .val (.int f1)] [(.ref b159)]))
      refine Done.step (fun t k => XS.iload X185.here hx rfl (hb hby at_191) rfl k) ?_
      show Done p e below s _ _ _ (T185.setTop (mkF m 193 #[.val (.int p1), .val (.int p2), .val (.int p3), .val (.int p4), .val (.int p5), .val (.int p6), .val (.int x101), .val (.ref b102), .val (.ref b104), .val (.ref b109), .val (.ref b159), .val (.int (1 : Int32)), .val (.int (0 : Int32)), .val (.int f1), .val (.int s1), .val (.int s1), .val (.int f1), .val (.int f1)] [(.int (1 : Int32)), (.ref b159)]))
      refine Done.step (fun t k => XS.iload X185.here hx rfl (hb hby at_193) rfl k) ?_
      show Done p e below s _ _ _ (T185.setTop (mkF m 195 #[.val (.int p1), .val (.int p2), .val (.int p3), .val (.int p4), .val (.int p5), .val (.int p6), .val (.int x101), .val (.ref b102), .val (.ref b104), .val (.ref b109), .val (.ref b159), .val (.int (1 : Int32)), .val (.int (0 : Int32)), .val (.int f1), .val (.int s1), .val (.int s1), .val (.int f1), .val (.int f1)] [(.int f1), (.int (1 : Int32)), (.ref b159)]))
      obtain ⟨cq186, kq186, q186a, q186b, q186c⟩ := isOf hZ e185 f183
      obtain ⟨v186, _, ⟨T186, L186, k186, n186⟩, -, X186, ⟨Lc186, hQ186, l186, y186, z186⟩, st186⟩ := X185.virtualBack hx (y := (⟨"com/example/dendrocover/dendrocover/Network", "otherEnd", "(II)I"⟩ : MethodName)) (z := (⟨"com/example/dendrocover/dendrocover/Network", "otherEnd", "(II)I"⟩ : MethodName)) hown (mvT hZ (hw _ (List.mem_of_getElem? (i := 25) rfl))) (mvT hZ (hw _ (List.mem_of_getElem? (i := 26) rfl))) (notFace_of_selects (args := #[]) (mvT hZ (hw _ (List.mem_of_getElem? (i := 28) rfl)))) (mvT hZ (hw _ (List.mem_of_getElem? (i := 28) rfl))) (mvT hZ (hw _ (List.mem_of_getElem? (i := 27) rfl))) (by decide) (backOf (W := 0) (rm3 l Z a0 hw [] b159 (1 : Int32) f1 b102 b104 [(0 : Int32), f1, f2] [(0 : Int32), s1, s2] f1 s1 T176.heap n0 Zk176 y176_1 y176_2 f178 f180 (by decide) rfl rfl) hZ (hw _ (List.mem_of_getElem? (i := 29) rfl)) (hw _ (List.mem_of_getElem? (i := 4) rfl)) (by decide) (by decide)) q186a q186c (g := (mkF m 195 #[.val (.int p1), .val (.int p2), .val (.int p3), .val (.int p4), .val (.int p5), .val (.int p6), .val (.int x101), .val (.ref b102), .val (.ref b104), .val (.ref b109), .val (.ref b159), .val (.int (1 : Int32)), .val (.int (0 : Int32)), .val (.int f1), .val (.int s1), .val (.int s1), .val (.int f1), .val (.int f1)] [(.int f1), (.int (1 : Int32)), (.ref b159)])) rfl (by rw [hml]; rfl) (Steps.refl _) (argsL := [(.int (1 : Int32)), (.int f1)]) (rest := []) (lenOf pd_1 rfl) rfl (by show 2 * 0 + _ ≤ _; exact Nat.le_of_eq rfl) (hb hby at_195) (fun _ _ => ⟨rfl, e185, (by decide : 6 + 0 ≤ _), (by decide : 278 + 0 ≤ _)⟩)
      dsimp only [Pt.U, Pt.locs, Pt.cells, Pt.slots] at X186 l186 y186 z186 st186 hQ186
      subst l186 y186 z186
      refine Done.far st186 ?_
      obtain ⟨rfl, N186q, e186⟩ := hQ186
      have N186 := Fr.app N185 N186q
      show Done p e below s _ _ _ (T186.setTop (mkF m 198 #[.val (.int p1), .val (.int p2), .val (.int p3), .val (.int p4), .val (.int p5), .val (.int p6), .val (.int x101), .val (.ref b102), .val (.ref b104), .val (.ref b109), .val (.ref b159), .val (.int (1 : Int32)), .val (.int (0 : Int32)), .val (.int f1), .val (.int s1), .val (.int s1), .val (.int f1), .val (.int f1)] [(.int (OE f1 s1 f1))]))
      rw [own_oeA f1 s1]
      show Done p e below s _ _ _ (T186.setTop (mkF m 198 #[.val (.int p1), .val (.int p2), .val (.int p3), .val (.int p4), .val (.int p5), .val (.int p6), .val (.int x101), .val (.ref b102), .val (.ref b104), .val (.ref b109), .val (.ref b159), .val (.int (1 : Int32)), .val (.int (0 : Int32)), .val (.int f1), .val (.int s1), .val (.int s1), .val (.int f1), .val (.int f1)] [(.int s1)]))
      refine Done.step (fun t k => XS.iload X186.here hx rfl (hb hby at_198) rfl k) ?_
      show Done p e below s _ _ _ (T186.setTop (mkF m 200 #[.val (.int p1), .val (.int p2), .val (.int p3), .val (.int p4), .val (.int p5), .val (.int p6), .val (.int x101), .val (.ref b102), .val (.ref b104), .val (.ref b109), .val (.ref b159), .val (.int (1 : Int32)), .val (.int (0 : Int32)), .val (.int f1), .val (.int s1), .val (.int s1), .val (.int f1), .val (.int f1)] [(.int s1), (.int s1)]))
      refine Done.step (fun t k => XS.icmpNo X186.here hx rfl (hb hby at_200) rfl (teq rfl).2 k) ?_
      show Done p e below s _ _ _ (T186.setTop (mkF m 203 #[.val (.int p1), .val (.int p2), .val (.int p3), .val (.int p4), .val (.int p5), .val (.int p6), .val (.int x101), .val (.ref b102), .val (.ref b104), .val (.ref b109), .val (.ref b159), .val (.int (1 : Int32)), .val (.int (0 : Int32)), .val (.int f1), .val (.int s1), .val (.int s1), .val (.int f1), .val (.int f1)] []))
      refine Done.step (fun t k => XS.iconst X186.here hx rfl (hb hby at_203) k) ?_
      show Done p e below s _ _ _ (T186.setTop (mkF m 204 #[.val (.int p1), .val (.int p2), .val (.int p3), .val (.int p4), .val (.int p5), .val (.int p6), .val (.int x101), .val (.ref b102), .val (.ref b104), .val (.ref b109), .val (.ref b159), .val (.int (1 : Int32)), .val (.int (0 : Int32)), .val (.int f1), .val (.int s1), .val (.int s1), .val (.int f1), .val (.int f1)] [(.int (1 : Int32))]))
      refine Done.step (fun t k => XS.goto X186.here hx rfl (pc0 := 204) (pc' := 208) rfl (hb hby at_204) (by decide) (by decide) k) ?_
      show Done p e below s _ _ _ (T186.setTop (mkF m 208 #[.val (.int p1), .val (.int p2), .val (.int p3), .val (.int p4), .val (.int p5), .val (.int p6), .val (.int x101), .val (.ref b102), .val (.ref b104), .val (.ref b109), .val (.ref b159), .val (.int (1 : Int32)), .val (.int (0 : Int32)), .val (.int f1), .val (.int s1), .val (.int s1), .val (.int f1), .val (.int f1)] [(.int (1 : Int32))]))
      exact Done.narr X186 hx hlk hret (by simp) (hb hby at_208) (by decide) (by decide) ⟨rfl, N186⟩
    · refine Done.step (fun t k => XS.ifNo X176.here hx rfl (hb hby at_117) rfl ((if0 _ _).trans (feq c1).1) k) ?_
      show Done p e below s _ _ _ (T176.setTop (mkF m 120 #[.val (.int p1), .val (.int p2), .val (.int p3), .val (.int p4), .val (.int p5), .val (.int p6), .val (.int x101), .val (.ref b102), .val (.ref b104), .val (.ref b109), .val (.ref b159), .val (.int (1 : Int32)), .unset, .unset, .unset, .unset, .unset, .unset] []))
      refine Done.step (fun t k => XS.iconst X176.here hx rfl (hb hby at_120) k) ?_
      show Done p e below s _ _ _ (T176.setTop (mkF m 121 #[.val (.int p1), .val (.int p2), .val (.int p3), .val (.int p4), .val (.int p5), .val (.int p6), .val (.int x101), .val (.ref b102), .val (.ref b104), .val (.ref b109), .val (.ref b159), .val (.int (1 : Int32)), .unset, .unset, .unset, .unset, .unset, .unset] [(.int (1 : Int32))]))
      refine Done.step (fun t k => XS.goto X176.here hx rfl (pc0 := 121) (pc' := 125) rfl (hb hby at_121) (by decide) (by decide) k) ?_
      show Done p e below s _ _ _ (T176.setTop (mkF m 125 #[.val (.int p1), .val (.int p2), .val (.int p3), .val (.int p4), .val (.int p5), .val (.int p6), .val (.int x101), .val (.ref b102), .val (.ref b104), .val (.ref b109), .val (.ref b159), .val (.int (1 : Int32)), .unset, .unset, .unset, .unset, .unset, .unset] [(.int (1 : Int32))]))
      refine Done.step (fun t k => XS.istore X176.here hx rfl (hb hby at_125) rfl (l' := #[.val (.int p1), .val (.int p2), .val (.int p3), .val (.int p4), .val (.int p5), .val (.int p6), .val (.int x101), .val (.ref b102), .val (.ref b104), .val (.ref b109), .val (.ref b159), .val (.int (1 : Int32)), .val (.int (1 : Int32)), .unset, .unset, .unset, .unset, .unset]) rfl k) ?_
      show Done p e below s _ _ _ (T176.setTop (mkF m 127 #[.val (.int p1), .val (.int p2), .val (.int p3), .val (.int p4), .val (.int p5), .val (.int p6), .val (.int x101), .val (.ref b102), .val (.ref b104), .val (.ref b109), .val (.ref b159), .val (.int (1 : Int32)), .val (.int (1 : Int32)), .unset, .unset, .unset, .unset, .unset] []))
      refine Done.step (fun t k => XS.aload X176.here hx rfl (hb hby at_127) rfl rfl k) ?_
      show Done p e below s _ _ _ (T176.setTop (mkF m 129 #[.val (.int p1), .val (.int p2), .val (.int p3), .val (.int p4), .val (.int p5), .val (.int p6), .val (.int x101), .val (.ref b102), .val (.ref b104), .val (.ref b109), .val (.ref b159), .val (.int (1 : Int32)), .val (.int (1 : Int32)), .unset, .unset, .unset, .unset, .unset] [(.ref b102)]))
      refine Done.step (fun t k => XS.iload X176.here hx rfl (hb hby at_129) rfl k) ?_
      show Done p e below s _ _ _ (T176.setTop (mkF m 131 #[.val (.int p1), .val (.int p2), .val (.int p3), .val (.int p4), .val (.int p5), .val (.int p6), .val (.int x101), .val (.ref b102), .val (.ref b104), .val (.ref b109), .val (.ref b159), .val (.int (1 : Int32)), .val (.int (1 : Int32)), .unset, .unset, .unset, .unset, .unset] [(.int (1 : Int32)), (.ref b102)]))
      refine Done.step (ldI X176 hx hZ rfl f178 (j := (1 : Int32)) (x := (.int f1)) (by decide) rfl (g := (mkF m 131 #[.val (.int p1), .val (.int p2), .val (.int p3), .val (.int p4), .val (.int p5), .val (.int p6), .val (.int x101), .val (.ref b102), .val (.ref b104), .val (.ref b109), .val (.ref b159), .val (.int (1 : Int32)), .val (.int (1 : Int32)), .unset, .unset, .unset, .unset, .unset] [(.int (1 : Int32)), (.ref b102)])) rfl rfl (hb hby at_131)) ?_
      show Done p e below s _ _ _ (T176.setTop (mkF m 132 #[.val (.int p1), .val (.int p2), .val (.int p3), .val (.int p4), .val (.int p5), .val (.int p6), .val (.int x101), .val (.ref b102), .val (.ref b104), .val (.ref b109), .val (.ref b159), .val (.int (1 : Int32)), .val (.int (1 : Int32)), .unset, .unset, .unset, .unset, .unset] [(.int f1)]))
      refine Done.step (fun t k => XS.istore X176.here hx rfl (hb hby at_132) rfl (l' := #[.val (.int p1), .val (.int p2), .val (.int p3), .val (.int p4), .val (.int p5), .val (.int p6), .val (.int x101), .val (.ref b102), .val (.ref b104), .val (.ref b109), .val (.ref b159), .val (.int (1 : Int32)), .val (.int (1 : Int32)), .val (.int f1), .unset, .unset, .unset, .unset]) rfl k) ?_
      show Done p e below s _ _ _ (T176.setTop (mkF m 134 #[.val (.int p1), .val (.int p2), .val (.int p3), .val (.int p4), .val (.int p5), .val (.int p6), .val (.int x101), .val (.ref b102), .val (.ref b104), .val (.ref b109), .val (.ref b159), .val (.int (1 : Int32)), .val (.int (1 : Int32)), .val (.int f1), .unset, .unset, .unset, .unset] []))
      refine Done.step (fun t k => XS.aload X176.here hx rfl (hb hby at_134) rfl rfl k) ?_
      show Done p e below s _ _ _ (T176.setTop (mkF m 136 #[.val (.int p1), .val (.int p2), .val (.int p3), .val (.int p4), .val (.int p5), .val (.int p6), .val (.int x101), .val (.ref b102), .val (.ref b104), .val (.ref b109), .val (.ref b159), .val (.int (1 : Int32)), .val (.int (1 : Int32)), .val (.int f1), .unset, .unset, .unset, .unset] [(.ref b104)]))
      refine Done.step (fun t k => XS.iload X176.here hx rfl (hb hby at_136) rfl k) ?_
      show Done p e below s _ _ _ (T176.setTop (mkF m 138 #[.val (.int p1), .val (.int p2), .val (.int p3), .val (.int p4), .val (.int p5), .val (.int p6), .val (.int x101), .val (.ref b102), .val (.ref b104), .val (.ref b109), .val (.ref b159), .val (.int (1 : Int32)), .val (.int (1 : Int32)), .val (.int f1), .unset, .unset, .unset, .unset] [(.int (1 : Int32)), (.ref b104)]))
      refine Done.step (ldI X176 hx hZ rfl f180 (j := (1 : Int32)) (x := (.int s1)) (by decide) rfl (g := (mkF m 138 #[.val (.int p1), .val (.int p2), .val (.int p3), .val (.int p4), .val (.int p5), .val (.int p6), .val (.int x101), .val (.ref b102), .val (.ref b104), .val (.ref b109), .val (.ref b159), .val (.int (1 : Int32)), .val (.int (1 : Int32)), .val (.int f1), .unset, .unset, .unset, .unset] [(.int (1 : Int32)), (.ref b104)])) rfl rfl (hb hby at_138)) ?_
      show Done p e below s _ _ _ (T176.setTop (mkF m 139 #[.val (.int p1), .val (.int p2), .val (.int p3), .val (.int p4), .val (.int p5), .val (.int p6), .val (.int x101), .val (.ref b102), .val (.ref b104), .val (.ref b109), .val (.ref b159), .val (.int (1 : Int32)), .val (.int (1 : Int32)), .val (.int f1), .unset, .unset, .unset, .unset] [(.int s1)]))
      refine Done.step (fun t k => XS.istore X176.here hx rfl (hb hby at_139) rfl (l' := #[.val (.int p1), .val (.int p2), .val (.int p3), .val (.int p4), .val (.int p5), .val (.int p6), .val (.int x101), .val (.ref b102), .val (.ref b104), .val (.ref b109), .val (.ref b159), .val (.int (1 : Int32)), .val (.int (1 : Int32)), .val (.int f1), .val (.int s1), .unset, .unset, .unset]) rfl k) ?_
      show Done p e below s _ _ _ (T176.setTop (mkF m 141 #[.val (.int p1), .val (.int p2), .val (.int p3), .val (.int p4), .val (.int p5), .val (.int p6), .val (.int x101), .val (.ref b102), .val (.ref b104), .val (.ref b109), .val (.ref b159), .val (.int (1 : Int32)), .val (.int (1 : Int32)), .val (.int f1), .val (.int s1), .unset, .unset, .unset] []))
      refine Done.step (fun t k => XS.iload X176.here hx rfl (hb hby at_141) rfl k) ?_
      show Done p e below s _ _ _ (T176.setTop (mkF m 143 #[.val (.int p1), .val (.int p2), .val (.int p3), .val (.int p4), .val (.int p5), .val (.int p6), .val (.int x101), .val (.ref b102), .val (.ref b104), .val (.ref b109), .val (.ref b159), .val (.int (1 : Int32)), .val (.int (1 : Int32)), .val (.int f1), .val (.int s1), .unset, .unset, .unset] [(.int (1 : Int32))]))
      refine Done.step (fun t k => XS.ifNo X176.here hx rfl (hb hby at_143) rfl ((if0 _ _).trans (feq (by decide)).1) k) ?_
      show Done p e below s _ _ _ (T176.setTop (mkF m 146 #[.val (.int p1), .val (.int p2), .val (.int p3), .val (.int p4), .val (.int p5), .val (.int p6), .val (.int x101), .val (.ref b102), .val (.ref b104), .val (.ref b109), .val (.ref b159), .val (.int (1 : Int32)), .val (.int (1 : Int32)), .val (.int f1), .val (.int s1), .unset, .unset, .unset] []))
      refine Done.step (fun t k => XS.iload X176.here hx rfl (hb hby at_146) rfl k) ?_
      show Done p e below s _ _ _ (T176.setTop (mkF m 148 #[.val (.int p1), .val (.int p2), .val (.int p3), .val (.int p4), .val (.int p5), .val (.int p6), .val (.int x101), .val (.ref b102), .val (.ref b104), .val (.ref b109), .val (.ref b159), .val (.int (1 : Int32)), .val (.int (1 : Int32)), .val (.int f1), .val (.int s1), .unset, .unset, .unset] [(.int f1)]))
      refine Done.step (fun t k => XS.goto X176.here hx rfl (pc0 := 148) (pc' := 153) rfl (hb hby at_148) (by decide) (by decide) k) ?_
      show Done p e below s _ _ _ (T176.setTop (mkF m 153 #[.val (.int p1), .val (.int p2), .val (.int p3), .val (.int p4), .val (.int p5), .val (.int p6), .val (.int x101), .val (.ref b102), .val (.ref b104), .val (.ref b109), .val (.ref b159), .val (.int (1 : Int32)), .val (.int (1 : Int32)), .val (.int f1), .val (.int s1), .unset, .unset, .unset] [(.int f1)]))
      refine Done.step (fun t k => XS.istore X176.here hx rfl (hb hby at_153) rfl (l' := #[.val (.int p1), .val (.int p2), .val (.int p3), .val (.int p4), .val (.int p5), .val (.int p6), .val (.int x101), .val (.ref b102), .val (.ref b104), .val (.ref b109), .val (.ref b159), .val (.int (1 : Int32)), .val (.int (1 : Int32)), .val (.int f1), .val (.int s1), .val (.int f1), .unset, .unset]) rfl k) ?_
      show Done p e below s _ _ _ (T176.setTop (mkF m 155 #[.val (.int p1), .val (.int p2), .val (.int p3), .val (.int p4), .val (.int p5), .val (.int p6), .val (.int x101), .val (.ref b102), .val (.ref b104), .val (.ref b109), .val (.ref b159), .val (.int (1 : Int32)), .val (.int (1 : Int32)), .val (.int f1), .val (.int s1), .val (.int f1), .unset, .unset] []))
      refine Done.step (fun t k => XS.iload X176.here hx rfl (hb hby at_155) rfl k) ?_
      show Done p e below s _ _ _ (T176.setTop (mkF m 157 #[.val (.int p1), .val (.int p2), .val (.int p3), .val (.int p4), .val (.int p5), .val (.int p6), .val (.int x101), .val (.ref b102), .val (.ref b104), .val (.ref b109), .val (.ref b159), .val (.int (1 : Int32)), .val (.int (1 : Int32)), .val (.int f1), .val (.int s1), .val (.int f1), .unset, .unset] [(.int (1 : Int32))]))
      refine Done.step (fun t k => XS.ifNo X176.here hx rfl (hb hby at_157) rfl ((if0 _ _).trans (feq (by decide)).1) k) ?_
      show Done p e below s _ _ _ (T176.setTop (mkF m 160 #[.val (.int p1), .val (.int p2), .val (.int p3), .val (.int p4), .val (.int p5), .val (.int p6), .val (.int x101), .val (.ref b102), .val (.ref b104), .val (.ref b109), .val (.ref b159), .val (.int (1 : Int32)), .val (.int (1 : Int32)), .val (.int f1), .val (.int s1), .val (.int f1), .unset, .unset] []))
      refine Done.step (fun t k => XS.iload X176.here hx rfl (hb hby at_160) rfl k) ?_
      show Done p e below s _ _ _ (T176.setTop (mkF m 162 #[.val (.int p1), .val (.int p2), .val (.int p3), .val (.int p4), .val (.int p5), .val (.int p6), .val (.int x101), .val (.ref b102), .val (.ref b104), .val (.ref b109), .val (.ref b159), .val (.int (1 : Int32)), .val (.int (1 : Int32)), .val (.int f1), .val (.int s1), .val (.int f1), .unset, .unset] [(.int s1)]))
      refine Done.step (fun t k => XS.goto X176.here hx rfl (pc0 := 162) (pc' := 167) rfl (hb hby at_162) (by decide) (by decide) k) ?_
      show Done p e below s _ _ _ (T176.setTop (mkF m 167 #[.val (.int p1), .val (.int p2), .val (.int p3), .val (.int p4), .val (.int p5), .val (.int p6), .val (.int x101), .val (.ref b102), .val (.ref b104), .val (.ref b109), .val (.ref b159), .val (.int (1 : Int32)), .val (.int (1 : Int32)), .val (.int f1), .val (.int s1), .val (.int f1), .unset, .unset] [(.int s1)]))
      refine Done.step (fun t k => XS.istore X176.here hx rfl (hb hby at_167) rfl (l' := #[.val (.int p1), .val (.int p2), .val (.int p3), .val (.int p4), .val (.int p5), .val (.int p6), .val (.int x101), .val (.ref b102), .val (.ref b104), .val (.ref b109), .val (.ref b159), .val (.int (1 : Int32)), .val (.int (1 : Int32)), .val (.int f1), .val (.int s1), .val (.int f1), .val (.int s1), .unset]) rfl k) ?_
      show Done p e below s _ _ _ (T176.setTop (mkF m 169 #[.val (.int p1), .val (.int p2), .val (.int p3), .val (.int p4), .val (.int p5), .val (.int p6), .val (.int x101), .val (.ref b102), .val (.ref b104), .val (.ref b109), .val (.ref b159), .val (.int (1 : Int32)), .val (.int (1 : Int32)), .val (.int f1), .val (.int s1), .val (.int f1), .val (.int s1), .unset] []))
      refine Done.step (fun t k => XS.aload X176.here hx rfl (hb hby at_169) rfl rfl k) ?_
      show Done p e below s _ _ _ (T176.setTop (mkF m 171 #[.val (.int p1), .val (.int p2), .val (.int p3), .val (.int p4), .val (.int p5), .val (.int p6), .val (.int x101), .val (.ref b102), .val (.ref b104), .val (.ref b109), .val (.ref b159), .val (.int (1 : Int32)), .val (.int (1 : Int32)), .val (.int f1), .val (.int s1), .val (.int f1), .val (.int s1), .unset] [(.ref b159)]))
      refine Done.step (fun t k => XS.iload X176.here hx rfl (hb hby at_171) rfl k) ?_
      show Done p e below s _ _ _ (T176.setTop (mkF m 173 #[.val (.int p1), .val (.int p2), .val (.int p3), .val (.int p4), .val (.int p5), .val (.int p6), .val (.int x101), .val (.ref b102), .val (.ref b104), .val (.ref b109), .val (.ref b159), .val (.int (1 : Int32)), .val (.int (1 : Int32)), .val (.int f1), .val (.int s1), .val (.int f1), .val (.int s1), .unset] [(.int (1 : Int32)), (.ref b159)]))
      refine Done.step (fun t k => XS.iload X176.here hx rfl (hb hby at_173) rfl k) ?_
      show Done p e below s _ _ _ (T176.setTop (mkF m 175 #[.val (.int p1), .val (.int p2), .val (.int p3), .val (.int p4), .val (.int p5), .val (.int p6), .val (.int x101), .val (.ref b102), .val (.ref b104), .val (.ref b109), .val (.ref b159), .val (.int (1 : Int32)), .val (.int (1 : Int32)), .val (.int f1), .val (.int s1), .val (.int f1), .val (.int s1), .unset] [(.int f1), (.int (1 : Int32)), (.ref b159)]))
      obtain ⟨cq187, kq187, q187a, q187b, q187c⟩ := isOf hZ rfl f183
      obtain ⟨v187, _, ⟨T187, L187, k187, n187⟩, -, X187, ⟨Lc187, hQ187, l187, y187, z187⟩, st187⟩ := X176.virtualBack hx (y := (⟨"com/example/dendrocover/dendrocover/Network", "otherEnd", "(II)I"⟩ : MethodName)) (z := (⟨"com/example/dendrocover/dendrocover/Network", "otherEnd", "(II)I"⟩ : MethodName)) hown (mvT hZ (hw _ (List.mem_of_getElem? (i := 25) rfl))) (mvT hZ (hw _ (List.mem_of_getElem? (i := 26) rfl))) (notFace_of_selects (args := #[]) (mvT hZ (hw _ (List.mem_of_getElem? (i := 28) rfl)))) (mvT hZ (hw _ (List.mem_of_getElem? (i := 28) rfl))) (mvT hZ (hw _ (List.mem_of_getElem? (i := 27) rfl))) (by decide) (backOf (W := 0) (rm3 l Z a0 hw [] b159 (1 : Int32) f1 b102 b104 [(0 : Int32), f1, f2] [(0 : Int32), s1, s2] f1 s1 T176.heap n0 Zk176 y176_1 y176_2 f178 f180 (by decide) rfl rfl) hZ (hw _ (List.mem_of_getElem? (i := 29) rfl)) (hw _ (List.mem_of_getElem? (i := 4) rfl)) (by decide) (by decide)) q187a q187c (g := (mkF m 175 #[.val (.int p1), .val (.int p2), .val (.int p3), .val (.int p4), .val (.int p5), .val (.int p6), .val (.int x101), .val (.ref b102), .val (.ref b104), .val (.ref b109), .val (.ref b159), .val (.int (1 : Int32)), .val (.int (1 : Int32)), .val (.int f1), .val (.int s1), .val (.int f1), .val (.int s1), .unset] [(.int f1), (.int (1 : Int32)), (.ref b159)])) rfl (by rw [hml]; rfl) (Steps.refl _) (argsL := [(.int (1 : Int32)), (.int f1)]) (rest := []) (lenOf pd_1 rfl) rfl (by show 2 * 0 + _ ≤ _; exact Nat.le_of_eq rfl) (hb hby at_175) (fun _ _ => ⟨rfl, rfl, (by decide : 6 + 0 ≤ _), (by decide : 278 + 0 ≤ _)⟩)
      dsimp only [Pt.U, Pt.locs, Pt.cells, Pt.slots] at X187 l187 y187 z187 st187 hQ187
      subst l187 y187 z187
      refine Done.far st187 ?_
      obtain ⟨rfl, N187q, e187⟩ := hQ187
      have N187 := Fr.app N176 N187q
      show Done p e below s _ _ _ (T187.setTop (mkF m 178 #[.val (.int p1), .val (.int p2), .val (.int p3), .val (.int p4), .val (.int p5), .val (.int p6), .val (.int x101), .val (.ref b102), .val (.ref b104), .val (.ref b109), .val (.ref b159), .val (.int (1 : Int32)), .val (.int (1 : Int32)), .val (.int f1), .val (.int s1), .val (.int f1), .val (.int s1), .unset] [(.int (OE f1 s1 f1))]))
      rw [own_oeA f1 s1]
      show Done p e below s _ _ _ (T187.setTop (mkF m 178 #[.val (.int p1), .val (.int p2), .val (.int p3), .val (.int p4), .val (.int p5), .val (.int p6), .val (.int x101), .val (.ref b102), .val (.ref b104), .val (.ref b109), .val (.ref b159), .val (.int (1 : Int32)), .val (.int (1 : Int32)), .val (.int f1), .val (.int s1), .val (.int f1), .val (.int s1), .unset] [(.int s1)]))
      refine Done.step (fun t k => XS.istore X187.here hx rfl (hb hby at_178) rfl (l' := #[.val (.int p1), .val (.int p2), .val (.int p3), .val (.int p4), .val (.int p5), .val (.int p6), .val (.int x101), .val (.ref b102), .val (.ref b104), .val (.ref b109), .val (.ref b159), .val (.int (1 : Int32)), .val (.int (1 : Int32)), .val (.int f1), .val (.int s1), .val (.int f1), .val (.int s1), .val (.int s1)]) rfl k) ?_
      show Done p e below s _ _ _ (T187.setTop (mkF m 180 #[.val (.int p1), .val (.int p2), .val (.int p3), .val (.int p4), .val (.int p5), .val (.int p6), .val (.int x101), .val (.ref b102), .val (.ref b104), .val (.ref b109), .val (.ref b159), .val (.int (1 : Int32)), .val (.int (1 : Int32)), .val (.int f1), .val (.int s1), .val (.int f1), .val (.int s1), .val (.int s1)] []))
      refine Done.step (fun t k => XS.iload X187.here hx rfl (hb hby at_180) rfl k) ?_
      show Done p e below s _ _ _ (T187.setTop (mkF m 182 #[.val (.int p1), .val (.int p2), .val (.int p3), .val (.int p4), .val (.int p5), .val (.int p6), .val (.int x101), .val (.ref b102), .val (.ref b104), .val (.ref b109), .val (.ref b159), .val (.int (1 : Int32)), .val (.int (1 : Int32)), .val (.int f1), .val (.int s1), .val (.int f1), .val (.int s1), .val (.int s1)] [(.int s1)]))
      refine Done.step (fun t k => XS.iload X187.here hx rfl (hb hby at_182) rfl k) ?_
      show Done p e below s _ _ _ (T187.setTop (mkF m 184 #[.val (.int p1), .val (.int p2), .val (.int p3), .val (.int p4), .val (.int p5), .val (.int p6), .val (.int x101), .val (.ref b102), .val (.ref b104), .val (.ref b109), .val (.ref b159), .val (.int (1 : Int32)), .val (.int (1 : Int32)), .val (.int f1), .val (.int s1), .val (.int f1), .val (.int s1), .val (.int s1)] [(.int s1), (.int s1)]))
      refine Done.step (fun t k => XS.icmpYes X187.here hx rfl (pc0 := 184) (pc' := 189) rfl (hb hby at_184) rfl (teq rfl).1 (by decide) (by decide) k) ?_
      show Done p e below s _ _ _ (T187.setTop (mkF m 189 #[.val (.int p1), .val (.int p2), .val (.int p3), .val (.int p4), .val (.int p5), .val (.int p6), .val (.int x101), .val (.ref b102), .val (.ref b104), .val (.ref b109), .val (.ref b159), .val (.int (1 : Int32)), .val (.int (1 : Int32)), .val (.int f1), .val (.int s1), .val (.int f1), .val (.int s1), .val (.int s1)] []))
      refine Done.step (fun t k => XS.aload X187.here hx rfl (hb hby at_189) rfl rfl k) ?_
      show Done p e below s _ _ _ (T187.setTop (mkF m 191 #[.val (.int p1), .val (.int p2), .val (.int p3), .val (.int p4), .val (.int p5), .val (.int p6), .val (.int x101), .val (.ref b102), .val (.ref b104), .val (.ref b109), .val (.ref b159), .val (.int (1 : Int32)), .val (.int (1 : Int32)), .val (.int f1), .val (.int s1), .val (.int f1), .val (.int s1), .val (.int s1)] [(.ref b159)]))
      refine Done.step (fun t k => XS.iload X187.here hx rfl (hb hby at_191) rfl k) ?_
      show Done p e below s _ _ _ (T187.setTop (mkF m 193 #[.val (.int p1), .val (.int p2), .val (.int p3), .val (.int p4), .val (.int p5), .val (.int p6), .val (.int x101), .val (.ref b102), .val (.ref b104), .val (.ref b109), .val (.ref b159), .val (.int (1 : Int32)), .val (.int (1 : Int32)), .val (.int f1), .val (.int s1), .val (.int f1), .val (.int s1), .val (.int s1)] [(.int (1 : Int32)), (.ref b159)]))
      refine Done.step (fun t k => XS.iload X187.here hx rfl (hb hby at_193) rfl k) ?_
      show Done p e below s _ _ _ (T187.setTop (mkF m 195 #[.val (.int p1), .val (.int p2), .val (.int p3), .val (.int p4), .val (.int p5), .val (.int p6), .val (.int x101), .val (.ref b102), .val (.ref b104), .val (.ref b109), .val (.ref b159), .val (.int (1 : Int32)), .val (.int (1 : Int32)), .val (.int f1), .val (.int s1), .val (.int f1), .val (.int s1), .val (.int s1)] [(.int s1), (.int (1 : Int32)), (.ref b159)]))
      obtain ⟨cq188, kq188, q188a, q188b, q188c⟩ := isOf hZ e187 f183
      obtain ⟨v188, _, ⟨T188, L188, k188, n188⟩, -, X188, ⟨Lc188, hQ188, l188, y188, z188⟩, st188⟩ := X187.virtualBack hx (y := (⟨"com/example/dendrocover/dendrocover/Network", "otherEnd", "(II)I"⟩ : MethodName)) (z := (⟨"com/example/dendrocover/dendrocover/Network", "otherEnd", "(II)I"⟩ : MethodName)) hown (mvT hZ (hw _ (List.mem_of_getElem? (i := 25) rfl))) (mvT hZ (hw _ (List.mem_of_getElem? (i := 26) rfl))) (notFace_of_selects (args := #[]) (mvT hZ (hw _ (List.mem_of_getElem? (i := 28) rfl)))) (mvT hZ (hw _ (List.mem_of_getElem? (i := 28) rfl))) (mvT hZ (hw _ (List.mem_of_getElem? (i := 27) rfl))) (by decide) (backOf (W := 0) (rm3 l Z a0 hw [] b159 (1 : Int32) s1 b102 b104 [(0 : Int32), f1, f2] [(0 : Int32), s1, s2] f1 s1 T176.heap n0 Zk176 y176_1 y176_2 f178 f180 (by decide) rfl rfl) hZ (hw _ (List.mem_of_getElem? (i := 29) rfl)) (hw _ (List.mem_of_getElem? (i := 4) rfl)) (by decide) (by decide)) q188a q188c (g := (mkF m 195 #[.val (.int p1), .val (.int p2), .val (.int p3), .val (.int p4), .val (.int p5), .val (.int p6), .val (.int x101), .val (.ref b102), .val (.ref b104), .val (.ref b109), .val (.ref b159), .val (.int (1 : Int32)), .val (.int (1 : Int32)), .val (.int f1), .val (.int s1), .val (.int f1), .val (.int s1), .val (.int s1)] [(.int s1), (.int (1 : Int32)), (.ref b159)])) rfl (by rw [hml]; rfl) (Steps.refl _) (argsL := [(.int (1 : Int32)), (.int s1)]) (rest := []) (lenOf pd_1 rfl) rfl (by show 2 * 0 + _ ≤ _; exact Nat.le_of_eq rfl) (hb hby at_195) (fun _ _ => ⟨rfl, e187, (by decide : 6 + 0 ≤ _), (by decide : 278 + 0 ≤ _)⟩)
      dsimp only [Pt.U, Pt.locs, Pt.cells, Pt.slots] at X188 l188 y188 z188 st188 hQ188
      subst l188 y188 z188
      refine Done.far st188 ?_
      obtain ⟨rfl, N188q, e188⟩ := hQ188
      have N188 := Fr.app N187 N188q
      show Done p e below s _ _ _ (T188.setTop (mkF m 198 #[.val (.int p1), .val (.int p2), .val (.int p3), .val (.int p4), .val (.int p5), .val (.int p6), .val (.int x101), .val (.ref b102), .val (.ref b104), .val (.ref b109), .val (.ref b159), .val (.int (1 : Int32)), .val (.int (1 : Int32)), .val (.int f1), .val (.int s1), .val (.int f1), .val (.int s1), .val (.int s1)] [(.int (OE f1 s1 s1))]))
      rw [own_oeB f1 s1]
      show Done p e below s _ _ _ (T188.setTop (mkF m 198 #[.val (.int p1), .val (.int p2), .val (.int p3), .val (.int p4), .val (.int p5), .val (.int p6), .val (.int x101), .val (.ref b102), .val (.ref b104), .val (.ref b109), .val (.ref b159), .val (.int (1 : Int32)), .val (.int (1 : Int32)), .val (.int f1), .val (.int s1), .val (.int f1), .val (.int s1), .val (.int s1)] [(.int f1)]))
      refine Done.step (fun t k => XS.iload X188.here hx rfl (hb hby at_198) rfl k) ?_
      show Done p e below s _ _ _ (T188.setTop (mkF m 200 #[.val (.int p1), .val (.int p2), .val (.int p3), .val (.int p4), .val (.int p5), .val (.int p6), .val (.int x101), .val (.ref b102), .val (.ref b104), .val (.ref b109), .val (.ref b159), .val (.int (1 : Int32)), .val (.int (1 : Int32)), .val (.int f1), .val (.int s1), .val (.int f1), .val (.int s1), .val (.int s1)] [(.int f1), (.int f1)]))
      refine Done.step (fun t k => XS.icmpNo X188.here hx rfl (hb hby at_200) rfl (teq rfl).2 k) ?_
      show Done p e below s _ _ _ (T188.setTop (mkF m 203 #[.val (.int p1), .val (.int p2), .val (.int p3), .val (.int p4), .val (.int p5), .val (.int p6), .val (.int x101), .val (.ref b102), .val (.ref b104), .val (.ref b109), .val (.ref b159), .val (.int (1 : Int32)), .val (.int (1 : Int32)), .val (.int f1), .val (.int s1), .val (.int f1), .val (.int s1), .val (.int s1)] []))
      refine Done.step (fun t k => XS.iconst X188.here hx rfl (hb hby at_203) k) ?_
      show Done p e below s _ _ _ (T188.setTop (mkF m 204 #[.val (.int p1), .val (.int p2), .val (.int p3), .val (.int p4), .val (.int p5), .val (.int p6), .val (.int x101), .val (.ref b102), .val (.ref b104), .val (.ref b109), .val (.ref b159), .val (.int (1 : Int32)), .val (.int (1 : Int32)), .val (.int f1), .val (.int s1), .val (.int f1), .val (.int s1), .val (.int s1)] [(.int (1 : Int32))]))
      refine Done.step (fun t k => XS.goto X188.here hx rfl (pc0 := 204) (pc' := 208) rfl (hb hby at_204) (by decide) (by decide) k) ?_
      show Done p e below s _ _ _ (T188.setTop (mkF m 208 #[.val (.int p1), .val (.int p2), .val (.int p3), .val (.int p4), .val (.int p5), .val (.int p6), .val (.int x101), .val (.ref b102), .val (.ref b104), .val (.ref b109), .val (.ref b159), .val (.int (1 : Int32)), .val (.int (1 : Int32)), .val (.int f1), .val (.int s1), .val (.int f1), .val (.int s1), .val (.int s1)] [(.int (1 : Int32))]))
      exact Done.narr X188 hx hlk hret (by simp) (hb hby at_208) (by decide) (by decide) ⟨rfl, N188⟩
  · show Done p e below s _ _ _ (T176.setTop (mkF m 113 #[.val (.int p1), .val (.int p2), .val (.int p3), .val (.int p4), .val (.int p5), .val (.int p6), .val (.int x101), .val (.ref b102), .val (.ref b104), .val (.ref b109), .val (.ref b159), .val (.int (2 : Int32)), .unset, .unset, .unset, .unset, .unset, .unset] []))
    refine Done.step (fun t k => XS.iload X176.here hx rfl (hb hby at_113) rfl k) ?_
    show Done p e below s _ _ _ (T176.setTop (mkF m 115 #[.val (.int p1), .val (.int p2), .val (.int p3), .val (.int p4), .val (.int p5), .val (.int p6), .val (.int x101), .val (.ref b102), .val (.ref b104), .val (.ref b109), .val (.ref b159), .val (.int (2 : Int32)), .unset, .unset, .unset, .unset, .unset, .unset] [(.int p6)]))
    refine Done.step (fun t k => XS.iconst X176.here hx rfl (hb hby at_115) k) ?_
    show Done p e below s _ _ _ (T176.setTop (mkF m 116 #[.val (.int p1), .val (.int p2), .val (.int p3), .val (.int p4), .val (.int p5), .val (.int p6), .val (.int x101), .val (.ref b102), .val (.ref b104), .val (.ref b109), .val (.ref b159), .val (.int (2 : Int32)), .unset, .unset, .unset, .unset, .unset, .unset] [(.int (2 : Int32)), (.int p6)]))
    refine Done.step (fun t k => XS.iand X176.here hx rfl (hb hby at_116) rfl k) ?_
    show Done p e below s _ _ _ (T176.setTop (mkF m 117 #[.val (.int p1), .val (.int p2), .val (.int p3), .val (.int p4), .val (.int p5), .val (.int p6), .val (.int x101), .val (.ref b102), .val (.ref b104), .val (.ref b109), .val (.ref b159), .val (.int (2 : Int32)), .unset, .unset, .unset, .unset, .unset, .unset] [(.int (p6 &&& (2 : Int32)))]))
    by_cases c2 : (p6 &&& (2 : Int32)) = (0 : Int32)
    · refine Done.step (fun t k => XS.ifYes X176.here hx rfl (pc0 := 117) (pc' := 124) rfl (hb hby at_117) rfl ((if0 _ _).trans (teq c2).1) (by decide) (by decide) k) ?_
      show Done p e below s _ _ _ (T176.setTop (mkF m 124 #[.val (.int p1), .val (.int p2), .val (.int p3), .val (.int p4), .val (.int p5), .val (.int p6), .val (.int x101), .val (.ref b102), .val (.ref b104), .val (.ref b109), .val (.ref b159), .val (.int (2 : Int32)), .unset, .unset, .unset, .unset, .unset, .unset] []))
      refine Done.step (fun t k => XS.iconst X176.here hx rfl (hb hby at_124) k) ?_
      show Done p e below s _ _ _ (T176.setTop (mkF m 125 #[.val (.int p1), .val (.int p2), .val (.int p3), .val (.int p4), .val (.int p5), .val (.int p6), .val (.int x101), .val (.ref b102), .val (.ref b104), .val (.ref b109), .val (.ref b159), .val (.int (2 : Int32)), .unset, .unset, .unset, .unset, .unset, .unset] [(.int (0 : Int32))]))
      refine Done.step (fun t k => XS.istore X176.here hx rfl (hb hby at_125) rfl (l' := #[.val (.int p1), .val (.int p2), .val (.int p3), .val (.int p4), .val (.int p5), .val (.int p6), .val (.int x101), .val (.ref b102), .val (.ref b104), .val (.ref b109), .val (.ref b159), .val (.int (2 : Int32)), .val (.int (0 : Int32)), .unset, .unset, .unset, .unset, .unset]) rfl k) ?_
      show Done p e below s _ _ _ (T176.setTop (mkF m 127 #[.val (.int p1), .val (.int p2), .val (.int p3), .val (.int p4), .val (.int p5), .val (.int p6), .val (.int x101), .val (.ref b102), .val (.ref b104), .val (.ref b109), .val (.ref b159), .val (.int (2 : Int32)), .val (.int (0 : Int32)), .unset, .unset, .unset, .unset, .unset] []))
      refine Done.step (fun t k => XS.aload X176.here hx rfl (hb hby at_127) rfl rfl k) ?_
      show Done p e below s _ _ _ (T176.setTop (mkF m 129 #[.val (.int p1), .val (.int p2), .val (.int p3), .val (.int p4), .val (.int p5), .val (.int p6), .val (.int x101), .val (.ref b102), .val (.ref b104), .val (.ref b109), .val (.ref b159), .val (.int (2 : Int32)), .val (.int (0 : Int32)), .unset, .unset, .unset, .unset, .unset] [(.ref b102)]))
      refine Done.step (fun t k => XS.iload X176.here hx rfl (hb hby at_129) rfl k) ?_
      show Done p e below s _ _ _ (T176.setTop (mkF m 131 #[.val (.int p1), .val (.int p2), .val (.int p3), .val (.int p4), .val (.int p5), .val (.int p6), .val (.int x101), .val (.ref b102), .val (.ref b104), .val (.ref b109), .val (.ref b159), .val (.int (2 : Int32)), .val (.int (0 : Int32)), .unset, .unset, .unset, .unset, .unset] [(.int (2 : Int32)), (.ref b102)]))
      refine Done.step (ldI X176 hx hZ rfl f178 (j := (2 : Int32)) (x := (.int f2)) (by decide) rfl (g := (mkF m 131 #[.val (.int p1), .val (.int p2), .val (.int p3), .val (.int p4), .val (.int p5), .val (.int p6), .val (.int x101), .val (.ref b102), .val (.ref b104), .val (.ref b109), .val (.ref b159), .val (.int (2 : Int32)), .val (.int (0 : Int32)), .unset, .unset, .unset, .unset, .unset] [(.int (2 : Int32)), (.ref b102)])) rfl rfl (hb hby at_131)) ?_
      show Done p e below s _ _ _ (T176.setTop (mkF m 132 #[.val (.int p1), .val (.int p2), .val (.int p3), .val (.int p4), .val (.int p5), .val (.int p6), .val (.int x101), .val (.ref b102), .val (.ref b104), .val (.ref b109), .val (.ref b159), .val (.int (2 : Int32)), .val (.int (0 : Int32)), .unset, .unset, .unset, .unset, .unset] [(.int f2)]))
      refine Done.step (fun t k => XS.istore X176.here hx rfl (hb hby at_132) rfl (l' := #[.val (.int p1), .val (.int p2), .val (.int p3), .val (.int p4), .val (.int p5), .val (.int p6), .val (.int x101), .val (.ref b102), .val (.ref b104), .val (.ref b109), .val (.ref b159), .val (.int (2 : Int32)), .val (.int (0 : Int32)), .val (.int f2), .unset, .unset, .unset, .unset]) rfl k) ?_
      show Done p e below s _ _ _ (T176.setTop (mkF m 134 #[.val (.int p1), .val (.int p2), .val (.int p3), .val (.int p4), .val (.int p5), .val (.int p6), .val (.int x101), .val (.ref b102), .val (.ref b104), .val (.ref b109), .val (.ref b159), .val (.int (2 : Int32)), .val (.int (0 : Int32)), .val (.int f2), .unset, .unset, .unset, .unset] []))
      refine Done.step (fun t k => XS.aload X176.here hx rfl (hb hby at_134) rfl rfl k) ?_
      show Done p e below s _ _ _ (T176.setTop (mkF m 136 #[.val (.int p1), .val (.int p2), .val (.int p3), .val (.int p4), .val (.int p5), .val (.int p6), .val (.int x101), .val (.ref b102), .val (.ref b104), .val (.ref b109), .val (.ref b159), .val (.int (2 : Int32)), .val (.int (0 : Int32)), .val (.int f2), .unset, .unset, .unset, .unset] [(.ref b104)]))
      refine Done.step (fun t k => XS.iload X176.here hx rfl (hb hby at_136) rfl k) ?_
      show Done p e below s _ _ _ (T176.setTop (mkF m 138 #[.val (.int p1), .val (.int p2), .val (.int p3), .val (.int p4), .val (.int p5), .val (.int p6), .val (.int x101), .val (.ref b102), .val (.ref b104), .val (.ref b109), .val (.ref b159), .val (.int (2 : Int32)), .val (.int (0 : Int32)), .val (.int f2), .unset, .unset, .unset, .unset] [(.int (2 : Int32)), (.ref b104)]))
      refine Done.step (ldI X176 hx hZ rfl f180 (j := (2 : Int32)) (x := (.int s2)) (by decide) rfl (g := (mkF m 138 #[.val (.int p1), .val (.int p2), .val (.int p3), .val (.int p4), .val (.int p5), .val (.int p6), .val (.int x101), .val (.ref b102), .val (.ref b104), .val (.ref b109), .val (.ref b159), .val (.int (2 : Int32)), .val (.int (0 : Int32)), .val (.int f2), .unset, .unset, .unset, .unset] [(.int (2 : Int32)), (.ref b104)])) rfl rfl (hb hby at_138)) ?_
      show Done p e below s _ _ _ (T176.setTop (mkF m 139 #[.val (.int p1), .val (.int p2), .val (.int p3), .val (.int p4), .val (.int p5), .val (.int p6), .val (.int x101), .val (.ref b102), .val (.ref b104), .val (.ref b109), .val (.ref b159), .val (.int (2 : Int32)), .val (.int (0 : Int32)), .val (.int f2), .unset, .unset, .unset, .unset] [(.int s2)]))
      refine Done.step (fun t k => XS.istore X176.here hx rfl (hb hby at_139) rfl (l' := #[.val (.int p1), .val (.int p2), .val (.int p3), .val (.int p4), .val (.int p5), .val (.int p6), .val (.int x101), .val (.ref b102), .val (.ref b104), .val (.ref b109), .val (.ref b159), .val (.int (2 : Int32)), .val (.int (0 : Int32)), .val (.int f2), .val (.int s2), .unset, .unset, .unset]) rfl k) ?_
      show Done p e below s _ _ _ (T176.setTop (mkF m 141 #[.val (.int p1), .val (.int p2), .val (.int p3), .val (.int p4), .val (.int p5), .val (.int p6), .val (.int x101), .val (.ref b102), .val (.ref b104), .val (.ref b109), .val (.ref b159), .val (.int (2 : Int32)), .val (.int (0 : Int32)), .val (.int f2), .val (.int s2), .unset, .unset, .unset] []))
      refine Done.step (fun t k => XS.iload X176.here hx rfl (hb hby at_141) rfl k) ?_
      show Done p e below s _ _ _ (T176.setTop (mkF m 143 #[.val (.int p1), .val (.int p2), .val (.int p3), .val (.int p4), .val (.int p5), .val (.int p6), .val (.int x101), .val (.ref b102), .val (.ref b104), .val (.ref b109), .val (.ref b159), .val (.int (2 : Int32)), .val (.int (0 : Int32)), .val (.int f2), .val (.int s2), .unset, .unset, .unset] [(.int (0 : Int32))]))
      refine Done.step (fun t k => XS.ifYes X176.here hx rfl (pc0 := 143) (pc' := 151) rfl (hb hby at_143) rfl ((if0 _ _).trans (teq (by decide)).1) (by decide) (by decide) k) ?_
      show Done p e below s _ _ _ (T176.setTop (mkF m 151 #[.val (.int p1), .val (.int p2), .val (.int p3), .val (.int p4), .val (.int p5), .val (.int p6), .val (.int x101), .val (.ref b102), .val (.ref b104), .val (.ref b109), .val (.ref b159), .val (.int (2 : Int32)), .val (.int (0 : Int32)), .val (.int f2), .val (.int s2), .unset, .unset, .unset] []))
      refine Done.step (fun t k => XS.iload X176.here hx rfl (hb hby at_151) rfl k) ?_
      show Done p e below s _ _ _ (T176.setTop (mkF m 153 #[.val (.int p1), .val (.int p2), .val (.int p3), .val (.int p4), .val (.int p5), .val (.int p6), .val (.int x101), .val (.ref b102), .val (.ref b104), .val (.ref b109), .val (.ref b159), .val (.int (2 : Int32)), .val (.int (0 : Int32)), .val (.int f2), .val (.int s2), .unset, .unset, .unset] [(.int s2)]))
      refine Done.step (fun t k => XS.istore X176.here hx rfl (hb hby at_153) rfl (l' := #[.val (.int p1), .val (.int p2), .val (.int p3), .val (.int p4), .val (.int p5), .val (.int p6), .val (.int x101), .val (.ref b102), .val (.ref b104), .val (.ref b109), .val (.ref b159), .val (.int (2 : Int32)), .val (.int (0 : Int32)), .val (.int f2), .val (.int s2), .val (.int s2), .unset, .unset]) rfl k) ?_
      show Done p e below s _ _ _ (T176.setTop (mkF m 155 #[.val (.int p1), .val (.int p2), .val (.int p3), .val (.int p4), .val (.int p5), .val (.int p6), .val (.int x101), .val (.ref b102), .val (.ref b104), .val (.ref b109), .val (.ref b159), .val (.int (2 : Int32)), .val (.int (0 : Int32)), .val (.int f2), .val (.int s2), .val (.int s2), .unset, .unset] []))
      refine Done.step (fun t k => XS.iload X176.here hx rfl (hb hby at_155) rfl k) ?_
      show Done p e below s _ _ _ (T176.setTop (mkF m 157 #[.val (.int p1), .val (.int p2), .val (.int p3), .val (.int p4), .val (.int p5), .val (.int p6), .val (.int x101), .val (.ref b102), .val (.ref b104), .val (.ref b109), .val (.ref b159), .val (.int (2 : Int32)), .val (.int (0 : Int32)), .val (.int f2), .val (.int s2), .val (.int s2), .unset, .unset] [(.int (0 : Int32))]))
      refine Done.step (fun t k => XS.ifYes X176.here hx rfl (pc0 := 157) (pc' := 165) rfl (hb hby at_157) rfl ((if0 _ _).trans (teq (by decide)).1) (by decide) (by decide) k) ?_
      show Done p e below s _ _ _ (T176.setTop (mkF m 165 #[.val (.int p1), .val (.int p2), .val (.int p3), .val (.int p4), .val (.int p5), .val (.int p6), .val (.int x101), .val (.ref b102), .val (.ref b104), .val (.ref b109), .val (.ref b159), .val (.int (2 : Int32)), .val (.int (0 : Int32)), .val (.int f2), .val (.int s2), .val (.int s2), .unset, .unset] []))
      refine Done.step (fun t k => XS.iload X176.here hx rfl (hb hby at_165) rfl k) ?_
      show Done p e below s _ _ _ (T176.setTop (mkF m 167 #[.val (.int p1), .val (.int p2), .val (.int p3), .val (.int p4), .val (.int p5), .val (.int p6), .val (.int x101), .val (.ref b102), .val (.ref b104), .val (.ref b109), .val (.ref b159), .val (.int (2 : Int32)), .val (.int (0 : Int32)), .val (.int f2), .val (.int s2), .val (.int s2), .unset, .unset] [(.int f2)]))
      refine Done.step (fun t k => XS.istore X176.here hx rfl (hb hby at_167) rfl (l' := #[.val (.int p1), .val (.int p2), .val (.int p3), .val (.int p4), .val (.int p5), .val (.int p6), .val (.int x101), .val (.ref b102), .val (.ref b104), .val (.ref b109), .val (.ref b159), .val (.int (2 : Int32)), .val (.int (0 : Int32)), .val (.int f2), .val (.int s2), .val (.int s2), .val (.int f2), .unset]) rfl k) ?_
      show Done p e below s _ _ _ (T176.setTop (mkF m 169 #[.val (.int p1), .val (.int p2), .val (.int p3), .val (.int p4), .val (.int p5), .val (.int p6), .val (.int x101), .val (.ref b102), .val (.ref b104), .val (.ref b109), .val (.ref b159), .val (.int (2 : Int32)), .val (.int (0 : Int32)), .val (.int f2), .val (.int s2), .val (.int s2), .val (.int f2), .unset] []))
      refine Done.step (fun t k => XS.aload X176.here hx rfl (hb hby at_169) rfl rfl k) ?_
      show Done p e below s _ _ _ (T176.setTop (mkF m 171 #[.val (.int p1), .val (.int p2), .val (.int p3), .val (.int p4), .val (.int p5), .val (.int p6), .val (.int x101), .val (.ref b102), .val (.ref b104), .val (.ref b109), .val (.ref b159), .val (.int (2 : Int32)), .val (.int (0 : Int32)), .val (.int f2), .val (.int s2), .val (.int s2), .val (.int f2), .unset] [(.ref b159)]))
      refine Done.step (fun t k => XS.iload X176.here hx rfl (hb hby at_171) rfl k) ?_
      show Done p e below s _ _ _ (T176.setTop (mkF m 173 #[.val (.int p1), .val (.int p2), .val (.int p3), .val (.int p4), .val (.int p5), .val (.int p6), .val (.int x101), .val (.ref b102), .val (.ref b104), .val (.ref b109), .val (.ref b159), .val (.int (2 : Int32)), .val (.int (0 : Int32)), .val (.int f2), .val (.int s2), .val (.int s2), .val (.int f2), .unset] [(.int (2 : Int32)), (.ref b159)]))
      refine Done.step (fun t k => XS.iload X176.here hx rfl (hb hby at_173) rfl k) ?_
      show Done p e below s _ _ _ (T176.setTop (mkF m 175 #[.val (.int p1), .val (.int p2), .val (.int p3), .val (.int p4), .val (.int p5), .val (.int p6), .val (.int x101), .val (.ref b102), .val (.ref b104), .val (.ref b109), .val (.ref b159), .val (.int (2 : Int32)), .val (.int (0 : Int32)), .val (.int f2), .val (.int s2), .val (.int s2), .val (.int f2), .unset] [(.int s2), (.int (2 : Int32)), (.ref b159)]))
      obtain ⟨cq189, kq189, q189a, q189b, q189c⟩ := isOf hZ rfl f183
      obtain ⟨v189, _, ⟨T189, L189, k189, n189⟩, -, X189, ⟨Lc189, hQ189, l189, y189, z189⟩, st189⟩ := X176.virtualBack hx (y := (⟨"com/example/dendrocover/dendrocover/Network", "otherEnd", "(II)I"⟩ : MethodName)) (z := (⟨"com/example/dendrocover/dendrocover/Network", "otherEnd", "(II)I"⟩ : MethodName)) hown (mvT hZ (hw _ (List.mem_of_getElem? (i := 25) rfl))) (mvT hZ (hw _ (List.mem_of_getElem? (i := 26) rfl))) (notFace_of_selects (args := #[]) (mvT hZ (hw _ (List.mem_of_getElem? (i := 28) rfl)))) (mvT hZ (hw _ (List.mem_of_getElem? (i := 28) rfl))) (mvT hZ (hw _ (List.mem_of_getElem? (i := 27) rfl))) (by decide) (backOf (W := 0) (rm3 l Z a0 hw [] b159 (2 : Int32) s2 b102 b104 [(0 : Int32), f1, f2] [(0 : Int32), s1, s2] f2 s2 T176.heap n0 Zk176 y176_1 y176_2 f178 f180 (by decide) rfl rfl) hZ (hw _ (List.mem_of_getElem? (i := 29) rfl)) (hw _ (List.mem_of_getElem? (i := 4) rfl)) (by decide) (by decide)) q189a q189c (g := (mkF m 175 #[.val (.int p1), .val (.int p2), .val (.int p3), .val (.int p4), .val (.int p5), .val (.int p6), .val (.int x101), .val (.ref b102), .val (.ref b104), .val (.ref b109), .val (.ref b159), .val (.int (2 : Int32)), .val (.int (0 : Int32)), .val (.int f2), .val (.int s2), .val (.int s2), .val (.int f2), .unset] [(.int s2), (.int (2 : Int32)), (.ref b159)])) rfl (by rw [hml]; rfl) (Steps.refl _) (argsL := [(.int (2 : Int32)), (.int s2)]) (rest := []) (lenOf pd_1 rfl) rfl (by show 2 * 0 + _ ≤ _; exact Nat.le_of_eq rfl) (hb hby at_175) (fun _ _ => ⟨rfl, rfl, (by decide : 6 + 0 ≤ _), (by decide : 278 + 0 ≤ _)⟩)
      dsimp only [Pt.U, Pt.locs, Pt.cells, Pt.slots] at X189 l189 y189 z189 st189 hQ189
      subst l189 y189 z189
      refine Done.far st189 ?_
      obtain ⟨rfl, N189q, e189⟩ := hQ189
      have N189 := Fr.app N176 N189q
      show Done p e below s _ _ _ (T189.setTop (mkF m 178 #[.val (.int p1), .val (.int p2), .val (.int p3), .val (.int p4), .val (.int p5), .val (.int p6), .val (.int x101), .val (.ref b102), .val (.ref b104), .val (.ref b109), .val (.ref b159), .val (.int (2 : Int32)), .val (.int (0 : Int32)), .val (.int f2), .val (.int s2), .val (.int s2), .val (.int f2), .unset] [(.int (OE f2 s2 s2))]))
      rw [own_oeB f2 s2]
      show Done p e below s _ _ _ (T189.setTop (mkF m 178 #[.val (.int p1), .val (.int p2), .val (.int p3), .val (.int p4), .val (.int p5), .val (.int p6), .val (.int x101), .val (.ref b102), .val (.ref b104), .val (.ref b109), .val (.ref b159), .val (.int (2 : Int32)), .val (.int (0 : Int32)), .val (.int f2), .val (.int s2), .val (.int s2), .val (.int f2), .unset] [(.int f2)]))
      refine Done.step (fun t k => XS.istore X189.here hx rfl (hb hby at_178) rfl (l' := #[.val (.int p1), .val (.int p2), .val (.int p3), .val (.int p4), .val (.int p5), .val (.int p6), .val (.int x101), .val (.ref b102), .val (.ref b104), .val (.ref b109), .val (.ref b159), .val (.int (2 : Int32)), .val (.int (0 : Int32)), .val (.int f2), .val (.int s2), .val (.int s2), .val (.int f2), .val (.int f2)]) rfl k) ?_
      show Done p e below s _ _ _ (T189.setTop (mkF m 180 #[.val (.int p1), .val (.int p2), .val (.int p3), .val (.int p4), .val (.int p5), .val (.int p6), .val (.int x101), .val (.ref b102), .val (.ref b104), .val (.ref b109), .val (.ref b159), .val (.int (2 : Int32)), .val (.int (0 : Int32)), .val (.int f2), .val (.int s2), .val (.int s2), .val (.int f2), .val (.int f2)] []))
      refine Done.step (fun t k => XS.iload X189.here hx rfl (hb hby at_180) rfl k) ?_
      show Done p e below s _ _ _ (T189.setTop (mkF m 182 #[.val (.int p1), .val (.int p2), .val (.int p3), .val (.int p4), .val (.int p5), .val (.int p6), .val (.int x101), .val (.ref b102), .val (.ref b104), .val (.ref b109), .val (.ref b159), .val (.int (2 : Int32)), .val (.int (0 : Int32)), .val (.int f2), .val (.int s2), .val (.int s2), .val (.int f2), .val (.int f2)] [(.int f2)]))
      refine Done.step (fun t k => XS.iload X189.here hx rfl (hb hby at_182) rfl k) ?_
      show Done p e below s _ _ _ (T189.setTop (mkF m 184 #[.val (.int p1), .val (.int p2), .val (.int p3), .val (.int p4), .val (.int p5), .val (.int p6), .val (.int x101), .val (.ref b102), .val (.ref b104), .val (.ref b109), .val (.ref b159), .val (.int (2 : Int32)), .val (.int (0 : Int32)), .val (.int f2), .val (.int s2), .val (.int s2), .val (.int f2), .val (.int f2)] [(.int f2), (.int f2)]))
      refine Done.step (fun t k => XS.icmpYes X189.here hx rfl (pc0 := 184) (pc' := 189) rfl (hb hby at_184) rfl (teq rfl).1 (by decide) (by decide) k) ?_
      show Done p e below s _ _ _ (T189.setTop (mkF m 189 #[.val (.int p1), .val (.int p2), .val (.int p3), .val (.int p4), .val (.int p5), .val (.int p6), .val (.int x101), .val (.ref b102), .val (.ref b104), .val (.ref b109), .val (.ref b159), .val (.int (2 : Int32)), .val (.int (0 : Int32)), .val (.int f2), .val (.int s2), .val (.int s2), .val (.int f2), .val (.int f2)] []))
      refine Done.step (fun t k => XS.aload X189.here hx rfl (hb hby at_189) rfl rfl k) ?_
      show Done p e below s _ _ _ (T189.setTop (mkF m 191 #[.val (.int p1), .val (.int p2), .val (.int p3), .val (.int p4), .val (.int p5), .val (.int p6), .val (.int x101), .val (.ref b102), .val (.ref b104), .val (.ref b109), .val (.ref b159), .val (.int (2 : Int32)), .val (.int (0 : Int32)), .val (.int f2), .val (.int s2), .val (.int s2), .val (.int f2), .val (.int f2)] [(.ref b159)]))
      refine Done.step (fun t k => XS.iload X189.here hx rfl (hb hby at_191) rfl k) ?_
      show Done p e below s _ _ _ (T189.setTop (mkF m 193 #[.val (.int p1), .val (.int p2), .val (.int p3), .val (.int p4), .val (.int p5), .val (.int p6), .val (.int x101), .val (.ref b102), .val (.ref b104), .val (.ref b109), .val (.ref b159), .val (.int (2 : Int32)), .val (.int (0 : Int32)), .val (.int f2), .val (.int s2), .val (.int s2), .val (.int f2), .val (.int f2)] [(.int (2 : Int32)), (.ref b159)]))
      refine Done.step (fun t k => XS.iload X189.here hx rfl (hb hby at_193) rfl k) ?_
      show Done p e below s _ _ _ (T189.setTop (mkF m 195 #[.val (.int p1), .val (.int p2), .val (.int p3), .val (.int p4), .val (.int p5), .val (.int p6), .val (.int x101), .val (.ref b102), .val (.ref b104), .val (.ref b109), .val (.ref b159), .val (.int (2 : Int32)), .val (.int (0 : Int32)), .val (.int f2), .val (.int s2), .val (.int s2), .val (.int f2), .val (.int f2)] [(.int f2), (.int (2 : Int32)), (.ref b159)]))
      obtain ⟨cq190, kq190, q190a, q190b, q190c⟩ := isOf hZ e189 f183
      obtain ⟨v190, _, ⟨T190, L190, k190, n190⟩, -, X190, ⟨Lc190, hQ190, l190, y190, z190⟩, st190⟩ := X189.virtualBack hx (y := (⟨"com/example/dendrocover/dendrocover/Network", "otherEnd", "(II)I"⟩ : MethodName)) (z := (⟨"com/example/dendrocover/dendrocover/Network", "otherEnd", "(II)I"⟩ : MethodName)) hown (mvT hZ (hw _ (List.mem_of_getElem? (i := 25) rfl))) (mvT hZ (hw _ (List.mem_of_getElem? (i := 26) rfl))) (notFace_of_selects (args := #[]) (mvT hZ (hw _ (List.mem_of_getElem? (i := 28) rfl)))) (mvT hZ (hw _ (List.mem_of_getElem? (i := 28) rfl))) (mvT hZ (hw _ (List.mem_of_getElem? (i := 27) rfl))) (by decide) (backOf (W := 0) (rm3 l Z a0 hw [] b159 (2 : Int32) f2 b102 b104 [(0 : Int32), f1, f2] [(0 : Int32), s1, s2] f2 s2 T176.heap n0 Zk176 y176_1 y176_2 f178 f180 (by decide) rfl rfl) hZ (hw _ (List.mem_of_getElem? (i := 29) rfl)) (hw _ (List.mem_of_getElem? (i := 4) rfl)) (by decide) (by decide)) q190a q190c (g := (mkF m 195 #[.val (.int p1), .val (.int p2), .val (.int p3), .val (.int p4), .val (.int p5), .val (.int p6), .val (.int x101), .val (.ref b102), .val (.ref b104), .val (.ref b109), .val (.ref b159), .val (.int (2 : Int32)), .val (.int (0 : Int32)), .val (.int f2), .val (.int s2), .val (.int s2), .val (.int f2), .val (.int f2)] [(.int f2), (.int (2 : Int32)), (.ref b159)])) rfl (by rw [hml]; rfl) (Steps.refl _) (argsL := [(.int (2 : Int32)), (.int f2)]) (rest := []) (lenOf pd_1 rfl) rfl (by show 2 * 0 + _ ≤ _; exact Nat.le_of_eq rfl) (hb hby at_195) (fun _ _ => ⟨rfl, e189, (by decide : 6 + 0 ≤ _), (by decide : 278 + 0 ≤ _)⟩)
      dsimp only [Pt.U, Pt.locs, Pt.cells, Pt.slots] at X190 l190 y190 z190 st190 hQ190
      subst l190 y190 z190
      refine Done.far st190 ?_
      obtain ⟨rfl, N190q, e190⟩ := hQ190
      have N190 := Fr.app N189 N190q
      show Done p e below s _ _ _ (T190.setTop (mkF m 198 #[.val (.int p1), .val (.int p2), .val (.int p3), .val (.int p4), .val (.int p5), .val (.int p6), .val (.int x101), .val (.ref b102), .val (.ref b104), .val (.ref b109), .val (.ref b159), .val (.int (2 : Int32)), .val (.int (0 : Int32)), .val (.int f2), .val (.int s2), .val (.int s2), .val (.int f2), .val (.int f2)] [(.int (OE f2 s2 f2))]))
      rw [own_oeA f2 s2]
      show Done p e below s _ _ _ (T190.setTop (mkF m 198 #[.val (.int p1), .val (.int p2), .val (.int p3), .val (.int p4), .val (.int p5), .val (.int p6), .val (.int x101), .val (.ref b102), .val (.ref b104), .val (.ref b109), .val (.ref b159), .val (.int (2 : Int32)), .val (.int (0 : Int32)), .val (.int f2), .val (.int s2), .val (.int s2), .val (.int f2), .val (.int f2)] [(.int s2)]))
      refine Done.step (fun t k => XS.iload X190.here hx rfl (hb hby at_198) rfl k) ?_
      show Done p e below s _ _ _ (T190.setTop (mkF m 200 #[.val (.int p1), .val (.int p2), .val (.int p3), .val (.int p4), .val (.int p5), .val (.int p6), .val (.int x101), .val (.ref b102), .val (.ref b104), .val (.ref b109), .val (.ref b159), .val (.int (2 : Int32)), .val (.int (0 : Int32)), .val (.int f2), .val (.int s2), .val (.int s2), .val (.int f2), .val (.int f2)] [(.int s2), (.int s2)]))
      refine Done.step (fun t k => XS.icmpNo X190.here hx rfl (hb hby at_200) rfl (teq rfl).2 k) ?_
      show Done p e below s _ _ _ (T190.setTop (mkF m 203 #[.val (.int p1), .val (.int p2), .val (.int p3), .val (.int p4), .val (.int p5), .val (.int p6), .val (.int x101), .val (.ref b102), .val (.ref b104), .val (.ref b109), .val (.ref b159), .val (.int (2 : Int32)), .val (.int (0 : Int32)), .val (.int f2), .val (.int s2), .val (.int s2), .val (.int f2), .val (.int f2)] []))
      refine Done.step (fun t k => XS.iconst X190.here hx rfl (hb hby at_203) k) ?_
      show Done p e below s _ _ _ (T190.setTop (mkF m 204 #[.val (.int p1), .val (.int p2), .val (.int p3), .val (.int p4), .val (.int p5), .val (.int p6), .val (.int x101), .val (.ref b102), .val (.ref b104), .val (.ref b109), .val (.ref b159), .val (.int (2 : Int32)), .val (.int (0 : Int32)), .val (.int f2), .val (.int s2), .val (.int s2), .val (.int f2), .val (.int f2)] [(.int (1 : Int32))]))
      refine Done.step (fun t k => XS.goto X190.here hx rfl (pc0 := 204) (pc' := 208) rfl (hb hby at_204) (by decide) (by decide) k) ?_
      show Done p e below s _ _ _ (T190.setTop (mkF m 208 #[.val (.int p1), .val (.int p2), .val (.int p3), .val (.int p4), .val (.int p5), .val (.int p6), .val (.int x101), .val (.ref b102), .val (.ref b104), .val (.ref b109), .val (.ref b159), .val (.int (2 : Int32)), .val (.int (0 : Int32)), .val (.int f2), .val (.int s2), .val (.int s2), .val (.int f2), .val (.int f2)] [(.int (1 : Int32))]))
      exact Done.narr X190 hx hlk hret (by simp) (hb hby at_208) (by decide) (by decide) ⟨rfl, N190⟩
    · refine Done.step (fun t k => XS.ifNo X176.here hx rfl (hb hby at_117) rfl ((if0 _ _).trans (feq c2).1) k) ?_
      show Done p e below s _ _ _ (T176.setTop (mkF m 120 #[.val (.int p1), .val (.int p2), .val (.int p3), .val (.int p4), .val (.int p5), .val (.int p6), .val (.int x101), .val (.ref b102), .val (.ref b104), .val (.ref b109), .val (.ref b159), .val (.int (2 : Int32)), .unset, .unset, .unset, .unset, .unset, .unset] []))
      refine Done.step (fun t k => XS.iconst X176.here hx rfl (hb hby at_120) k) ?_
      show Done p e below s _ _ _ (T176.setTop (mkF m 121 #[.val (.int p1), .val (.int p2), .val (.int p3), .val (.int p4), .val (.int p5), .val (.int p6), .val (.int x101), .val (.ref b102), .val (.ref b104), .val (.ref b109), .val (.ref b159), .val (.int (2 : Int32)), .unset, .unset, .unset, .unset, .unset, .unset] [(.int (1 : Int32))]))
      refine Done.step (fun t k => XS.goto X176.here hx rfl (pc0 := 121) (pc' := 125) rfl (hb hby at_121) (by decide) (by decide) k) ?_
      show Done p e below s _ _ _ (T176.setTop (mkF m 125 #[.val (.int p1), .val (.int p2), .val (.int p3), .val (.int p4), .val (.int p5), .val (.int p6), .val (.int x101), .val (.ref b102), .val (.ref b104), .val (.ref b109), .val (.ref b159), .val (.int (2 : Int32)), .unset, .unset, .unset, .unset, .unset, .unset] [(.int (1 : Int32))]))
      refine Done.step (fun t k => XS.istore X176.here hx rfl (hb hby at_125) rfl (l' := #[.val (.int p1), .val (.int p2), .val (.int p3), .val (.int p4), .val (.int p5), .val (.int p6), .val (.int x101), .val (.ref b102), .val (.ref b104), .val (.ref b109), .val (.ref b159), .val (.int (2 : Int32)), .val (.int (1 : Int32)), .unset, .unset, .unset, .unset, .unset]) rfl k) ?_
      show Done p e below s _ _ _ (T176.setTop (mkF m 127 #[.val (.int p1), .val (.int p2), .val (.int p3), .val (.int p4), .val (.int p5), .val (.int p6), .val (.int x101), .val (.ref b102), .val (.ref b104), .val (.ref b109), .val (.ref b159), .val (.int (2 : Int32)), .val (.int (1 : Int32)), .unset, .unset, .unset, .unset, .unset] []))
      refine Done.step (fun t k => XS.aload X176.here hx rfl (hb hby at_127) rfl rfl k) ?_
      show Done p e below s _ _ _ (T176.setTop (mkF m 129 #[.val (.int p1), .val (.int p2), .val (.int p3), .val (.int p4), .val (.int p5), .val (.int p6), .val (.int x101), .val (.ref b102), .val (.ref b104), .val (.ref b109), .val (.ref b159), .val (.int (2 : Int32)), .val (.int (1 : Int32)), .unset, .unset, .unset, .unset, .unset] [(.ref b102)]))
      refine Done.step (fun t k => XS.iload X176.here hx rfl (hb hby at_129) rfl k) ?_
      show Done p e below s _ _ _ (T176.setTop (mkF m 131 #[.val (.int p1), .val (.int p2), .val (.int p3), .val (.int p4), .val (.int p5), .val (.int p6), .val (.int x101), .val (.ref b102), .val (.ref b104), .val (.ref b109), .val (.ref b159), .val (.int (2 : Int32)), .val (.int (1 : Int32)), .unset, .unset, .unset, .unset, .unset] [(.int (2 : Int32)), (.ref b102)]))
      refine Done.step (ldI X176 hx hZ rfl f178 (j := (2 : Int32)) (x := (.int f2)) (by decide) rfl (g := (mkF m 131 #[.val (.int p1), .val (.int p2), .val (.int p3), .val (.int p4), .val (.int p5), .val (.int p6), .val (.int x101), .val (.ref b102), .val (.ref b104), .val (.ref b109), .val (.ref b159), .val (.int (2 : Int32)), .val (.int (1 : Int32)), .unset, .unset, .unset, .unset, .unset] [(.int (2 : Int32)), (.ref b102)])) rfl rfl (hb hby at_131)) ?_
      show Done p e below s _ _ _ (T176.setTop (mkF m 132 #[.val (.int p1), .val (.int p2), .val (.int p3), .val (.int p4), .val (.int p5), .val (.int p6), .val (.int x101), .val (.ref b102), .val (.ref b104), .val (.ref b109), .val (.ref b159), .val (.int (2 : Int32)), .val (.int (1 : Int32)), .unset, .unset, .unset, .unset, .unset] [(.int f2)]))
      refine Done.step (fun t k => XS.istore X176.here hx rfl (hb hby at_132) rfl (l' := #[.val (.int p1), .val (.int p2), .val (.int p3), .val (.int p4), .val (.int p5), .val (.int p6), .val (.int x101), .val (.ref b102), .val (.ref b104), .val (.ref b109), .val (.ref b159), .val (.int (2 : Int32)), .val (.int (1 : Int32)), .val (.int f2), .unset, .unset, .unset, .unset]) rfl k) ?_
      show Done p e below s _ _ _ (T176.setTop (mkF m 134 #[.val (.int p1), .val (.int p2), .val (.int p3), .val (.int p4), .val (.int p5), .val (.int p6), .val (.int x101), .val (.ref b102), .val (.ref b104), .val (.ref b109), .val (.ref b159), .val (.int (2 : Int32)), .val (.int (1 : Int32)), .val (.int f2), .unset, .unset, .unset, .unset] []))
      refine Done.step (fun t k => XS.aload X176.here hx rfl (hb hby at_134) rfl rfl k) ?_
      show Done p e below s _ _ _ (T176.setTop (mkF m 136 #[.val (.int p1), .val (.int p2), .val (.int p3), .val (.int p4), .val (.int p5), .val (.int p6), .val (.int x101), .val (.ref b102), .val (.ref b104), .val (.ref b109), .val (.ref b159), .val (.int (2 : Int32)), .val (.int (1 : Int32)), .val (.int f2), .unset, .unset, .unset, .unset] [(.ref b104)]))
      refine Done.step (fun t k => XS.iload X176.here hx rfl (hb hby at_136) rfl k) ?_
      show Done p e below s _ _ _ (T176.setTop (mkF m 138 #[.val (.int p1), .val (.int p2), .val (.int p3), .val (.int p4), .val (.int p5), .val (.int p6), .val (.int x101), .val (.ref b102), .val (.ref b104), .val (.ref b109), .val (.ref b159), .val (.int (2 : Int32)), .val (.int (1 : Int32)), .val (.int f2), .unset, .unset, .unset, .unset] [(.int (2 : Int32)), (.ref b104)]))
      refine Done.step (ldI X176 hx hZ rfl f180 (j := (2 : Int32)) (x := (.int s2)) (by decide) rfl (g := (mkF m 138 #[.val (.int p1), .val (.int p2), .val (.int p3), .val (.int p4), .val (.int p5), .val (.int p6), .val (.int x101), .val (.ref b102), .val (.ref b104), .val (.ref b109), .val (.ref b159), .val (.int (2 : Int32)), .val (.int (1 : Int32)), .val (.int f2), .unset, .unset, .unset, .unset] [(.int (2 : Int32)), (.ref b104)])) rfl rfl (hb hby at_138)) ?_
      show Done p e below s _ _ _ (T176.setTop (mkF m 139 #[.val (.int p1), .val (.int p2), .val (.int p3), .val (.int p4), .val (.int p5), .val (.int p6), .val (.int x101), .val (.ref b102), .val (.ref b104), .val (.ref b109), .val (.ref b159), .val (.int (2 : Int32)), .val (.int (1 : Int32)), .val (.int f2), .unset, .unset, .unset, .unset] [(.int s2)]))
      refine Done.step (fun t k => XS.istore X176.here hx rfl (hb hby at_139) rfl (l' := #[.val (.int p1), .val (.int p2), .val (.int p3), .val (.int p4), .val (.int p5), .val (.int p6), .val (.int x101), .val (.ref b102), .val (.ref b104), .val (.ref b109), .val (.ref b159), .val (.int (2 : Int32)), .val (.int (1 : Int32)), .val (.int f2), .val (.int s2), .unset, .unset, .unset]) rfl k) ?_
      show Done p e below s _ _ _ (T176.setTop (mkF m 141 #[.val (.int p1), .val (.int p2), .val (.int p3), .val (.int p4), .val (.int p5), .val (.int p6), .val (.int x101), .val (.ref b102), .val (.ref b104), .val (.ref b109), .val (.ref b159), .val (.int (2 : Int32)), .val (.int (1 : Int32)), .val (.int f2), .val (.int s2), .unset, .unset, .unset] []))
      refine Done.step (fun t k => XS.iload X176.here hx rfl (hb hby at_141) rfl k) ?_
      show Done p e below s _ _ _ (T176.setTop (mkF m 143 #[.val (.int p1), .val (.int p2), .val (.int p3), .val (.int p4), .val (.int p5), .val (.int p6), .val (.int x101), .val (.ref b102), .val (.ref b104), .val (.ref b109), .val (.ref b159), .val (.int (2 : Int32)), .val (.int (1 : Int32)), .val (.int f2), .val (.int s2), .unset, .unset, .unset] [(.int (1 : Int32))]))
      refine Done.step (fun t k => XS.ifNo X176.here hx rfl (hb hby at_143) rfl ((if0 _ _).trans (feq (by decide)).1) k) ?_
      show Done p e below s _ _ _ (T176.setTop (mkF m 146 #[.val (.int p1), .val (.int p2), .val (.int p3), .val (.int p4), .val (.int p5), .val (.int p6), .val (.int x101), .val (.ref b102), .val (.ref b104), .val (.ref b109), .val (.ref b159), .val (.int (2 : Int32)), .val (.int (1 : Int32)), .val (.int f2), .val (.int s2), .unset, .unset, .unset] []))
      refine Done.step (fun t k => XS.iload X176.here hx rfl (hb hby at_146) rfl k) ?_
      show Done p e below s _ _ _ (T176.setTop (mkF m 148 #[.val (.int p1), .val (.int p2), .val (.int p3), .val (.int p4), .val (.int p5), .val (.int p6), .val (.int x101), .val (.ref b102), .val (.ref b104), .val (.ref b109), .val (.ref b159), .val (.int (2 : Int32)), .val (.int (1 : Int32)), .val (.int f2), .val (.int s2), .unset, .unset, .unset] [(.int f2)]))
      refine Done.step (fun t k => XS.goto X176.here hx rfl (pc0 := 148) (pc' := 153) rfl (hb hby at_148) (by decide) (by decide) k) ?_
      show Done p e below s _ _ _ (T176.setTop (mkF m 153 #[.val (.int p1), .val (.int p2), .val (.int p3), .val (.int p4), .val (.int p5), .val (.int p6), .val (.int x101), .val (.ref b102), .val (.ref b104), .val (.ref b109), .val (.ref b159), .val (.int (2 : Int32)), .val (.int (1 : Int32)), .val (.int f2), .val (.int s2), .unset, .unset, .unset] [(.int f2)]))
      refine Done.step (fun t k => XS.istore X176.here hx rfl (hb hby at_153) rfl (l' := #[.val (.int p1), .val (.int p2), .val (.int p3), .val (.int p4), .val (.int p5), .val (.int p6), .val (.int x101), .val (.ref b102), .val (.ref b104), .val (.ref b109), .val (.ref b159), .val (.int (2 : Int32)), .val (.int (1 : Int32)), .val (.int f2), .val (.int s2), .val (.int f2), .unset, .unset]) rfl k) ?_
      show Done p e below s _ _ _ (T176.setTop (mkF m 155 #[.val (.int p1), .val (.int p2), .val (.int p3), .val (.int p4), .val (.int p5), .val (.int p6), .val (.int x101), .val (.ref b102), .val (.ref b104), .val (.ref b109), .val (.ref b159), .val (.int (2 : Int32)), .val (.int (1 : Int32)), .val (.int f2), .val (.int s2), .val (.int f2), .unset, .unset] []))
      refine Done.step (fun t k => XS.iload X176.here hx rfl (hb hby at_155) rfl k) ?_
      show Done p e below s _ _ _ (T176.setTop (mkF m 157 #[.val (.int p1), .val (.int p2), .val (.int p3), .val (.int p4), .val (.int p5), .val (.int p6), .val (.int x101), .val (.ref b102), .val (.ref b104), .val (.ref b109), .val (.ref b159), .val (.int (2 : Int32)), .val (.int (1 : Int32)), .val (.int f2), .val (.int s2), .val (.int f2), .unset, .unset] [(.int (1 : Int32))]))
      refine Done.step (fun t k => XS.ifNo X176.here hx rfl (hb hby at_157) rfl ((if0 _ _).trans (feq (by decide)).1) k) ?_
      show Done p e below s _ _ _ (T176.setTop (mkF m 160 #[.val (.int p1), .val (.int p2), .val (.int p3), .val (.int p4), .val (.int p5), .val (.int p6), .val (.int x101), .val (.ref b102), .val (.ref b104), .val (.ref b109), .val (.ref b159), .val (.int (2 : Int32)), .val (.int (1 : Int32)), .val (.int f2), .val (.int s2), .val (.int f2), .unset, .unset] []))
      refine Done.step (fun t k => XS.iload X176.here hx rfl (hb hby at_160) rfl k) ?_
      show Done p e below s _ _ _ (T176.setTop (mkF m 162 #[.val (.int p1), .val (.int p2), .val (.int p3), .val (.int p4), .val (.int p5), .val (.int p6), .val (.int x101), .val (.ref b102), .val (.ref b104), .val (.ref b109), .val (.ref b159), .val (.int (2 : Int32)), .val (.int (1 : Int32)), .val (.int f2), .val (.int s2), .val (.int f2), .unset, .unset] [(.int s2)]))
      refine Done.step (fun t k => XS.goto X176.here hx rfl (pc0 := 162) (pc' := 167) rfl (hb hby at_162) (by decide) (by decide) k) ?_
      show Done p e below s _ _ _ (T176.setTop (mkF m 167 #[.val (.int p1), .val (.int p2), .val (.int p3), .val (.int p4), .val (.int p5), .val (.int p6), .val (.int x101), .val (.ref b102), .val (.ref b104), .val (.ref b109), .val (.ref b159), .val (.int (2 : Int32)), .val (.int (1 : Int32)), .val (.int f2), .val (.int s2), .val (.int f2), .unset, .unset] [(.int s2)]))
      refine Done.step (fun t k => XS.istore X176.here hx rfl (hb hby at_167) rfl (l' := #[.val (.int p1), .val (.int p2), .val (.int p3), .val (.int p4), .val (.int p5), .val (.int p6), .val (.int x101), .val (.ref b102), .val (.ref b104), .val (.ref b109), .val (.ref b159), .val (.int (2 : Int32)), .val (.int (1 : Int32)), .val (.int f2), .val (.int s2), .val (.int f2), .val (.int s2), .unset]) rfl k) ?_
      show Done p e below s _ _ _ (T176.setTop (mkF m 169 #[.val (.int p1), .val (.int p2), .val (.int p3), .val (.int p4), .val (.int p5), .val (.int p6), .val (.int x101), .val (.ref b102), .val (.ref b104), .val (.ref b109), .val (.ref b159), .val (.int (2 : Int32)), .val (.int (1 : Int32)), .val (.int f2), .val (.int s2), .val (.int f2), .val (.int s2), .unset] []))
      refine Done.step (fun t k => XS.aload X176.here hx rfl (hb hby at_169) rfl rfl k) ?_
      show Done p e below s _ _ _ (T176.setTop (mkF m 171 #[.val (.int p1), .val (.int p2), .val (.int p3), .val (.int p4), .val (.int p5), .val (.int p6), .val (.int x101), .val (.ref b102), .val (.ref b104), .val (.ref b109), .val (.ref b159), .val (.int (2 : Int32)), .val (.int (1 : Int32)), .val (.int f2), .val (.int s2), .val (.int f2), .val (.int s2), .unset] [(.ref b159)]))
      refine Done.step (fun t k => XS.iload X176.here hx rfl (hb hby at_171) rfl k) ?_
      show Done p e below s _ _ _ (T176.setTop (mkF m 173 #[.val (.int p1), .val (.int p2), .val (.int p3), .val (.int p4), .val (.int p5), .val (.int p6), .val (.int x101), .val (.ref b102), .val (.ref b104), .val (.ref b109), .val (.ref b159), .val (.int (2 : Int32)), .val (.int (1 : Int32)), .val (.int f2), .val (.int s2), .val (.int f2), .val (.int s2), .unset] [(.int (2 : Int32)), (.ref b159)]))
      refine Done.step (fun t k => XS.iload X176.here hx rfl (hb hby at_173) rfl k) ?_
      show Done p e below s _ _ _ (T176.setTop (mkF m 175 #[.val (.int p1), .val (.int p2), .val (.int p3), .val (.int p4), .val (.int p5), .val (.int p6), .val (.int x101), .val (.ref b102), .val (.ref b104), .val (.ref b109), .val (.ref b159), .val (.int (2 : Int32)), .val (.int (1 : Int32)), .val (.int f2), .val (.int s2), .val (.int f2), .val (.int s2), .unset] [(.int f2), (.int (2 : Int32)), (.ref b159)]))
      obtain ⟨cq191, kq191, q191a, q191b, q191c⟩ := isOf hZ rfl f183
      obtain ⟨v191, _, ⟨T191, L191, k191, n191⟩, -, X191, ⟨Lc191, hQ191, l191, y191, z191⟩, st191⟩ := X176.virtualBack hx (y := (⟨"com/example/dendrocover/dendrocover/Network", "otherEnd", "(II)I"⟩ : MethodName)) (z := (⟨"com/example/dendrocover/dendrocover/Network", "otherEnd", "(II)I"⟩ : MethodName)) hown (mvT hZ (hw _ (List.mem_of_getElem? (i := 25) rfl))) (mvT hZ (hw _ (List.mem_of_getElem? (i := 26) rfl))) (notFace_of_selects (args := #[]) (mvT hZ (hw _ (List.mem_of_getElem? (i := 28) rfl)))) (mvT hZ (hw _ (List.mem_of_getElem? (i := 28) rfl))) (mvT hZ (hw _ (List.mem_of_getElem? (i := 27) rfl))) (by decide) (backOf (W := 0) (rm3 l Z a0 hw [] b159 (2 : Int32) f2 b102 b104 [(0 : Int32), f1, f2] [(0 : Int32), s1, s2] f2 s2 T176.heap n0 Zk176 y176_1 y176_2 f178 f180 (by decide) rfl rfl) hZ (hw _ (List.mem_of_getElem? (i := 29) rfl)) (hw _ (List.mem_of_getElem? (i := 4) rfl)) (by decide) (by decide)) q191a q191c (g := (mkF m 175 #[.val (.int p1), .val (.int p2), .val (.int p3), .val (.int p4), .val (.int p5), .val (.int p6), .val (.int x101), .val (.ref b102), .val (.ref b104), .val (.ref b109), .val (.ref b159), .val (.int (2 : Int32)), .val (.int (1 : Int32)), .val (.int f2), .val (.int s2), .val (.int f2), .val (.int s2), .unset] [(.int f2), (.int (2 : Int32)), (.ref b159)])) rfl (by rw [hml]; rfl) (Steps.refl _) (argsL := [(.int (2 : Int32)), (.int f2)]) (rest := []) (lenOf pd_1 rfl) rfl (by show 2 * 0 + _ ≤ _; exact Nat.le_of_eq rfl) (hb hby at_175) (fun _ _ => ⟨rfl, rfl, (by decide : 6 + 0 ≤ _), (by decide : 278 + 0 ≤ _)⟩)
      dsimp only [Pt.U, Pt.locs, Pt.cells, Pt.slots] at X191 l191 y191 z191 st191 hQ191
      subst l191 y191 z191
      refine Done.far st191 ?_
      obtain ⟨rfl, N191q, e191⟩ := hQ191
      have N191 := Fr.app N176 N191q
      show Done p e below s _ _ _ (T191.setTop (mkF m 178 #[.val (.int p1), .val (.int p2), .val (.int p3), .val (.int p4), .val (.int p5), .val (.int p6), .val (.int x101), .val (.ref b102), .val (.ref b104), .val (.ref b109), .val (.ref b159), .val (.int (2 : Int32)), .val (.int (1 : Int32)), .val (.int f2), .val (.int s2), .val (.int f2), .val (.int s2), .unset] [(.int (OE f2 s2 f2))]))
      rw [own_oeA f2 s2]
      show Done p e below s _ _ _ (T191.setTop (mkF m 178 #[.val (.int p1), .val (.int p2), .val (.int p3), .val (.int p4), .val (.int p5), .val (.int p6), .val (.int x101), .val (.ref b102), .val (.ref b104), .val (.ref b109), .val (.ref b159), .val (.int (2 : Int32)), .val (.int (1 : Int32)), .val (.int f2), .val (.int s2), .val (.int f2), .val (.int s2), .unset] [(.int s2)]))
      refine Done.step (fun t k => XS.istore X191.here hx rfl (hb hby at_178) rfl (l' := #[.val (.int p1), .val (.int p2), .val (.int p3), .val (.int p4), .val (.int p5), .val (.int p6), .val (.int x101), .val (.ref b102), .val (.ref b104), .val (.ref b109), .val (.ref b159), .val (.int (2 : Int32)), .val (.int (1 : Int32)), .val (.int f2), .val (.int s2), .val (.int f2), .val (.int s2), .val (.int s2)]) rfl k) ?_
      show Done p e below s _ _ _ (T191.setTop (mkF m 180 #[.val (.int p1), .val (.int p2), .val (.int p3), .val (.int p4), .val (.int p5), .val (.int p6), .val (.int x101), .val (.ref b102), .val (.ref b104), .val (.ref b109), .val (.ref b159), .val (.int (2 : Int32)), .val (.int (1 : Int32)), .val (.int f2), .val (.int s2), .val (.int f2), .val (.int s2), .val (.int s2)] []))
      refine Done.step (fun t k => XS.iload X191.here hx rfl (hb hby at_180) rfl k) ?_
      show Done p e below s _ _ _ (T191.setTop (mkF m 182 #[.val (.int p1), .val (.int p2), .val (.int p3), .val (.int p4), .val (.int p5), .val (.int p6), .val (.int x101), .val (.ref b102), .val (.ref b104), .val (.ref b109), .val (.ref b159), .val (.int (2 : Int32)), .val (.int (1 : Int32)), .val (.int f2), .val (.int s2), .val (.int f2), .val (.int s2), .val (.int s2)] [(.int s2)]))
      refine Done.step (fun t k => XS.iload X191.here hx rfl (hb hby at_182) rfl k) ?_
      show Done p e below s _ _ _ (T191.setTop (mkF m 184 #[.val (.int p1), .val (.int p2), .val (.int p3), .val (.int p4), .val (.int p5), .val (.int p6), .val (.int x101), .val (.ref b102), .val (.ref b104), .val (.ref b109), .val (.ref b159), .val (.int (2 : Int32)), .val (.int (1 : Int32)), .val (.int f2), .val (.int s2), .val (.int f2), .val (.int s2), .val (.int s2)] [(.int s2), (.int s2)]))
      refine Done.step (fun t k => XS.icmpYes X191.here hx rfl (pc0 := 184) (pc' := 189) rfl (hb hby at_184) rfl (teq rfl).1 (by decide) (by decide) k) ?_
      show Done p e below s _ _ _ (T191.setTop (mkF m 189 #[.val (.int p1), .val (.int p2), .val (.int p3), .val (.int p4), .val (.int p5), .val (.int p6), .val (.int x101), .val (.ref b102), .val (.ref b104), .val (.ref b109), .val (.ref b159), .val (.int (2 : Int32)), .val (.int (1 : Int32)), .val (.int f2), .val (.int s2), .val (.int f2), .val (.int s2), .val (.int s2)] []))
      refine Done.step (fun t k => XS.aload X191.here hx rfl (hb hby at_189) rfl rfl k) ?_
      show Done p e below s _ _ _ (T191.setTop (mkF m 191 #[.val (.int p1), .val (.int p2), .val (.int p3), .val (.int p4), .val (.int p5), .val (.int p6), .val (.int x101), .val (.ref b102), .val (.ref b104), .val (.ref b109), .val (.ref b159), .val (.int (2 : Int32)), .val (.int (1 : Int32)), .val (.int f2), .val (.int s2), .val (.int f2), .val (.int s2), .val (.int s2)] [(.ref b159)]))
      refine Done.step (fun t k => XS.iload X191.here hx rfl (hb hby at_191) rfl k) ?_
      show Done p e below s _ _ _ (T191.setTop (mkF m 193 #[.val (.int p1), .val (.int p2), .val (.int p3), .val (.int p4), .val (.int p5), .val (.int p6), .val (.int x101), .val (.ref b102), .val (.ref b104), .val (.ref b109), .val (.ref b159), .val (.int (2 : Int32)), .val (.int (1 : Int32)), .val (.int f2), .val (.int s2), .val (.int f2), .val (.int s2), .val (.int s2)] [(.int (2 : Int32)), (.ref b159)]))
      refine Done.step (fun t k => XS.iload X191.here hx rfl (hb hby at_193) rfl k) ?_
      show Done p e below s _ _ _ (T191.setTop (mkF m 195 #[.val (.int p1), .val (.int p2), .val (.int p3), .val (.int p4), .val (.int p5), .val (.int p6), .val (.int x101), .val (.ref b102), .val (.ref b104), .val (.ref b109), .val (.ref b159), .val (.int (2 : Int32)), .val (.int (1 : Int32)), .val (.int f2), .val (.int s2), .val (.int f2), .val (.int s2), .val (.int s2)] [(.int s2), (.int (2 : Int32)), (.ref b159)]))
      obtain ⟨cq192, kq192, q192a, q192b, q192c⟩ := isOf hZ e191 f183
      obtain ⟨v192, _, ⟨T192, L192, k192, n192⟩, -, X192, ⟨Lc192, hQ192, l192, y192, z192⟩, st192⟩ := X191.virtualBack hx (y := (⟨"com/example/dendrocover/dendrocover/Network", "otherEnd", "(II)I"⟩ : MethodName)) (z := (⟨"com/example/dendrocover/dendrocover/Network", "otherEnd", "(II)I"⟩ : MethodName)) hown (mvT hZ (hw _ (List.mem_of_getElem? (i := 25) rfl))) (mvT hZ (hw _ (List.mem_of_getElem? (i := 26) rfl))) (notFace_of_selects (args := #[]) (mvT hZ (hw _ (List.mem_of_getElem? (i := 28) rfl)))) (mvT hZ (hw _ (List.mem_of_getElem? (i := 28) rfl))) (mvT hZ (hw _ (List.mem_of_getElem? (i := 27) rfl))) (by decide) (backOf (W := 0) (rm3 l Z a0 hw [] b159 (2 : Int32) s2 b102 b104 [(0 : Int32), f1, f2] [(0 : Int32), s1, s2] f2 s2 T176.heap n0 Zk176 y176_1 y176_2 f178 f180 (by decide) rfl rfl) hZ (hw _ (List.mem_of_getElem? (i := 29) rfl)) (hw _ (List.mem_of_getElem? (i := 4) rfl)) (by decide) (by decide)) q192a q192c (g := (mkF m 195 #[.val (.int p1), .val (.int p2), .val (.int p3), .val (.int p4), .val (.int p5), .val (.int p6), .val (.int x101), .val (.ref b102), .val (.ref b104), .val (.ref b109), .val (.ref b159), .val (.int (2 : Int32)), .val (.int (1 : Int32)), .val (.int f2), .val (.int s2), .val (.int f2), .val (.int s2), .val (.int s2)] [(.int s2), (.int (2 : Int32)), (.ref b159)])) rfl (by rw [hml]; rfl) (Steps.refl _) (argsL := [(.int (2 : Int32)), (.int s2)]) (rest := []) (lenOf pd_1 rfl) rfl (by show 2 * 0 + _ ≤ _; exact Nat.le_of_eq rfl) (hb hby at_195) (fun _ _ => ⟨rfl, e191, (by decide : 6 + 0 ≤ _), (by decide : 278 + 0 ≤ _)⟩)
      dsimp only [Pt.U, Pt.locs, Pt.cells, Pt.slots] at X192 l192 y192 z192 st192 hQ192
      subst l192 y192 z192
      refine Done.far st192 ?_
      obtain ⟨rfl, N192q, e192⟩ := hQ192
      have N192 := Fr.app N191 N192q
      show Done p e below s _ _ _ (T192.setTop (mkF m 198 #[.val (.int p1), .val (.int p2), .val (.int p3), .val (.int p4), .val (.int p5), .val (.int p6), .val (.int x101), .val (.ref b102), .val (.ref b104), .val (.ref b109), .val (.ref b159), .val (.int (2 : Int32)), .val (.int (1 : Int32)), .val (.int f2), .val (.int s2), .val (.int f2), .val (.int s2), .val (.int s2)] [(.int (OE f2 s2 s2))]))
      rw [own_oeB f2 s2]
      show Done p e below s _ _ _ (T192.setTop (mkF m 198 #[.val (.int p1), .val (.int p2), .val (.int p3), .val (.int p4), .val (.int p5), .val (.int p6), .val (.int x101), .val (.ref b102), .val (.ref b104), .val (.ref b109), .val (.ref b159), .val (.int (2 : Int32)), .val (.int (1 : Int32)), .val (.int f2), .val (.int s2), .val (.int f2), .val (.int s2), .val (.int s2)] [(.int f2)]))
      refine Done.step (fun t k => XS.iload X192.here hx rfl (hb hby at_198) rfl k) ?_
      show Done p e below s _ _ _ (T192.setTop (mkF m 200 #[.val (.int p1), .val (.int p2), .val (.int p3), .val (.int p4), .val (.int p5), .val (.int p6), .val (.int x101), .val (.ref b102), .val (.ref b104), .val (.ref b109), .val (.ref b159), .val (.int (2 : Int32)), .val (.int (1 : Int32)), .val (.int f2), .val (.int s2), .val (.int f2), .val (.int s2), .val (.int s2)] [(.int f2), (.int f2)]))
      refine Done.step (fun t k => XS.icmpNo X192.here hx rfl (hb hby at_200) rfl (teq rfl).2 k) ?_
      show Done p e below s _ _ _ (T192.setTop (mkF m 203 #[.val (.int p1), .val (.int p2), .val (.int p3), .val (.int p4), .val (.int p5), .val (.int p6), .val (.int x101), .val (.ref b102), .val (.ref b104), .val (.ref b109), .val (.ref b159), .val (.int (2 : Int32)), .val (.int (1 : Int32)), .val (.int f2), .val (.int s2), .val (.int f2), .val (.int s2), .val (.int s2)] []))
      refine Done.step (fun t k => XS.iconst X192.here hx rfl (hb hby at_203) k) ?_
      show Done p e below s _ _ _ (T192.setTop (mkF m 204 #[.val (.int p1), .val (.int p2), .val (.int p3), .val (.int p4), .val (.int p5), .val (.int p6), .val (.int x101), .val (.ref b102), .val (.ref b104), .val (.ref b109), .val (.ref b159), .val (.int (2 : Int32)), .val (.int (1 : Int32)), .val (.int f2), .val (.int s2), .val (.int f2), .val (.int s2), .val (.int s2)] [(.int (1 : Int32))]))
      refine Done.step (fun t k => XS.goto X192.here hx rfl (pc0 := 204) (pc' := 208) rfl (hb hby at_204) (by decide) (by decide) k) ?_
      show Done p e below s _ _ _ (T192.setTop (mkF m 208 #[.val (.int p1), .val (.int p2), .val (.int p3), .val (.int p4), .val (.int p5), .val (.int p6), .val (.int x101), .val (.ref b102), .val (.ref b104), .val (.ref b109), .val (.ref b159), .val (.int (2 : Int32)), .val (.int (1 : Int32)), .val (.int f2), .val (.int s2), .val (.int f2), .val (.int s2), .val (.int s2)] [(.int (1 : Int32))]))
      exact Done.narr X192 hx hlk hret (by simp) (hb hby at_208) (by decide) (by decide) ⟨rfl, N192⟩
set_option maxRecDepth 65536 in
set_option maxHeartbeats 40000000 in
theorem comes_1 {Post : Tables → Env → Array Value → State → Outcome → State → Prop} (hpost : ∀ tb e args s v u, (limb_1_1.after args s (.returned v) u = true ∧ limb_1_2.after args s (.returned v) u = true ∧ True) → FrameEnd s (.returned v) u (Jvm.fieldLocs frame_1_writes args s ++ Jvm.arrayLocs frame_1_arrays args s ++ Jvm.staticLocs frame_1_statics s) 24 640 → Post tb e args s (.returned v) u) :
    ArmFor flags0 classFile x code maxLocals ret World_1 tables_1 room_1 Calls_1 rest_1 Pre_1 Post := by
  intro l hfl _ _ p e ha hc hk s m args below hf hA hF happ hP
  obtain ⟨hcalls, hrest, hpre⟩ := hP
  obtain ⟨-, -, -, hnamed, -, -, -, hat⟩ := (Spec.applies_iff hf).mp happ
  obtain ⟨hg, hn⟩ := and_e (Cond.before_iff.mp (show (Jvm.Cond.and given_1 narrow_1).before args s = true from hpre))
  obtain ⟨hcnt, g0⟩ := and_e hg
  obtain ⟨u0, g1⟩ := and_e g0
  obtain ⟨u1, g2⟩ := and_e g1
  obtain ⟨u2, g3⟩ := and_e g2
  obtain ⟨u3, g4⟩ := and_e g3
  obtain ⟨u4, g5⟩ := and_e g4
  have u5 := g5
  obtain ⟨w0, w1, w2, w3, w4, w5, rfl⟩ : ∃ w0 w1 w2 w3 w4 w5 : Value, args = #[w0, w1, w2, w3, w4, w5] := by
    have hs : args.size = 6 := by simpa [Cond.value, given_1] using hcnt
    obtain ⟨L⟩ := args
    match L, hs with
    | [w0, w1, w2, w3, w4, w5], _ => exact ⟨w0, w1, w2, w3, w4, w5, rfl⟩
  have hw := fun d (hd : d ∈ tables_1) => atoms_spec (ws := Jvm.Cond.code x code maxLocals ret :: tables_1) hat d (List.mem_cons_of_mem _ hd)
  have hfit : Fit s := fun {y c} hc i hi => by
    obtain ⟨ha, rfl⟩ := Array.getElem?_eq_some_iff.mp hc
    have q := List.all_eq_true.mp ((Array.all_eq_true_iff_forall_mem.mp hF) _ (Array.getElem_mem ha)) i (List.mem_range.mpr hi)
    simpa [Array.getElem?_eq_getElem hi] using q
  obtain ⟨i0, ei0⟩ := is_v u0
  obtain rfl : w0 = (.int i0) := Option.some.inj ei0
  obtain ⟨i1, ei1⟩ := is_v u1
  obtain rfl : w1 = (.int i1) := Option.some.inj ei1
  obtain ⟨i2, ei2⟩ := is_v u2
  obtain rfl : w2 = (.int i2) := Option.some.inj ei2
  obtain ⟨i3, ei3⟩ := is_v u3
  obtain rfl : w3 = (.int i3) := Option.some.inj ei3
  obtain ⟨i4, ei4⟩ := is_v u4
  obtain rfl : w4 = (.int i4) := Option.some.inj ei4
  obtain ⟨i5, ei5⟩ := is_v u5
  obtain rfl : w5 = (.int i5) := Option.some.inj ei5
  obtain ⟨n, o, h1, h2, h3, _, L, rfl, ⟨rfl, N⟩, hq⟩ := rm0 l s _ hw tables_1 i0 i1 i2 i3 i4 i5 s.heap s.heap.size (Nat.le_refl _) p e ha hc hk s m _ below hf ((Spec.applies_iff_loose hf).mp happ).1 ⟨rfl, State.Warmed39.refl s, rfl⟩ trivial
  refine ⟨n, _, h1, h2, h3, hpost _ _ _ _ _ _ ⟨Cond.after_iff.mpr rfl, Cond.after_iff.mpr (eq_i res_at (Term.int_eval (1)) rfl), trivial⟩ ⟨hq.1, hq.2.1, (hq.2.2.sift fun y hy => Or.inr (N y hy)).mono (by decide) (by decide)⟩⟩
theorem main_1_1 : Claimed_1_1 := comes_1 fun _ _ _ _ _ _ h hF => ⟨h.1, hF⟩
theorem main_1_2 : Claimed_1_2 := comes_1 fun _ _ _ _ _ _ h hF => ⟨h.2.1, hF⟩
end Jvm.Pilot.@@N@@
namespace Jvm.Pilot.@@N@@
open Jvm Jvm.ClassFile Sem Op Lib Jvm.Free Jvm.Stand Jvm.Pilot.@@N@@.Jvm.D
/-! MADE BY PROGRAM (witnessworld.py) out of the Statement's table words and the real class files: 9 classes; the members and pool entries that the words name. The judged class is class 1, her method 1. -/
namespace start1
open Jvm.ClassFile
def u (s : String) : CpInfo := .utf8 (stringToUtf16 s)
/-- a pool by its gaps: so many unusable entries, then the entry; so many at the end -/
def gap : Nat → List CpInfo → List CpInfo
  | 0, r => r
  | n + 1, r => .unusable :: gap n r
def poolList (es : List (Nat × CpInfo)) (last : Nat) : List CpInfo := es.foldr (fun e r => gap e.1 (e.2 :: r)) (gap last [])
def pool (es : List (Nat × CpInfo)) (last : Nat) : Array CpInfo := ⟨poolList es last⟩
def fileOf (pool : Array CpInfo) (this : Nat) (attrs : Array Attribute := #[]) (ms : Array MethodInfo := #[]) (fl : Nat := 33) (sup : Nat := 0) (ifs : Array Nat := #[]) (fds : Array FieldInfo := #[]) : ClassFile where
  minorVersion := 0
  majorVersion := 65
  constantPool := pool
  accessFlags := fl
  thisClass := this
  superClass := sup
  interfaces := ifs
  fields := fds
  methods := ms
  attributes := attrs
def plain (name : String) (sup : Option ClassId) : Class where
  name := name
  kind := .ordinary
  loader := none
  accessFlags := 33
  super := sup
  interfaces := #[]
  cf := none
  fields := #[]
  methods := #[]
  instanceTypes := #[]
  staticTypes := #[]
  resolved := #[]
  callSites := []
  init := .initialized
  statics := none
  mirror := none

def pool0 : Array CpInfo := pool [(5, u "<init>"), (0, u "()V"), (1, .class_ 10), (1, u "java/lang/Object")] 113

def k0c0 : Code := { maxStack := 0, maxLocals := 1, code := object_method_1_code, exceptionTable := #[], attributes := #[] }
def k0m0 : Method := { name := "<init>", desc := "()V", sig := { parameters := [], returnType := none }, accessFlags := 1, code := some k0c0 }
/-- java/lang/Object -/
def k0 : Class := { plain "java/lang/Object" none with
  accessFlags := 33
  interfaces := #[]
  cf := some (fileOf pool0 8 #[] #[{ accessFlags := 1, nameIndex := 5, descriptorIndex := 6, attributes := #[] }] 33 0 #[] #[])
  fields := #[]
  methods := #[k0m0]
  instanceTypes := #[]
  staticTypes := #[]
  resolved := Array.replicate 124 none
  statics := none }

def pool1 : Array CpInfo := pool [(2, .class_ 4), (1, u "java/lang/Object"), (0, u "<init>"), (0, u "()V"), (0, .integer 2147483647), (0, .class_ 9), (0, u "com/example/dendrocover/dendrocover/Network"), (0, .methodref 8 11), (0, .nameAndType 5 12), (0, u "(II[I[I[I)V"), (0, .methodref 8 14), (0, .nameAndType 15 16), (0, u "otherEnd"), (0, u "(II)I"), (0, .class_ 18), (0, u "com/example/dendrocover/dendrocover/NetworkOtherEndPinLaw"), (2, u "law"), (0, u "(IIIIII)Z")] 5

def k1m0 : Method := { name := "<init>", desc := "()V", sig := { parameters := [], returnType := none }, accessFlags := 1, code := none }
def k1c1 : Code := { maxStack := 7, maxLocals := 18, code := code, exceptionTable := #[], attributes := #[] }
def k1m1 : Method := { name := "law", desc := "(IIIIII)Z", sig := { parameters := [.int, .int, .int, .int, .int, .int], returnType := some .boolean }, accessFlags := 9, code := some k1c1 }
/-- com/example/dendrocover/dendrocover/NetworkOtherEndPinLaw -/
def k1 : Class := { plain "com/example/dendrocover/dendrocover/NetworkOtherEndPinLaw" (some 0) with
  accessFlags := 49
  interfaces := #[]
  cf := some (fileOf pool1 17 #[] #[{ accessFlags := 1, nameIndex := 5, descriptorIndex := 6, attributes := #[] }, { accessFlags := 9, nameIndex := 21, descriptorIndex := 22, attributes := #[] }] 49 2 #[] #[])
  fields := #[]
  methods := #[k1m0, k1m1]
  instanceTypes := #[]
  staticTypes := #[]
  resolved := Array.replicate 28 none
  statics := none }

def pool2 : Array CpInfo := pool [(1, .methodref 2 3), (0, .class_ 4), (0, .nameAndType 5 6), (0, u "java/lang/Object"), (0, u "<init>"), (0, u "()V"), (0, .fieldref 8 9), (0, .class_ 10), (0, .nameAndType 11 12), (0, u "com/example/dendrocover/dendrocover/Network"), (0, u "vertexCount"), (0, u "I"), (0, .fieldref 8 14), (0, .nameAndType 15 12), (0, u "roadCount"), (0, .fieldref 8 17), (0, .nameAndType 18 19), (0, u "firstEnd"), (0, u "[I"), (0, .fieldref 8 21), (0, .nameAndType 22 19), (0, u "secondEnd"), (0, .fieldref 8 24), (0, .nameAndType 25 19), (0, u "length"), (0, .fieldref 8 27), (0, .nameAndType 28 19), (0, u "incidenceStart"), (0, .fieldref 8 30), (0, .nameAndType 31 19), (0, u "incident"), (0, u "(II[I[I[I)V"), (8, u "otherEnd"), (0, u "(II)I")] 4

def k2c0 : Code := { maxStack := 5, maxLocals := 8, code := prog_20_method_1_code, exceptionTable := #[], attributes := #[] }
def k2m0 : Method := { name := "<init>", desc := "(II[I[I[I)V", sig := { parameters := [.int, .int, (.array .int), (.array .int), (.array .int)], returnType := none }, accessFlags := 0, code := some k2c0 }
def k2c1 : Code := { maxStack := 2, maxLocals := 3, code := prog_20_method_8_code, exceptionTable := #[], attributes := #[] }
def k2m1 : Method := { name := "otherEnd", desc := "(II)I", sig := { parameters := [.int, .int], returnType := some .int }, accessFlags := 0, code := some k2c1 }
/-- com/example/dendrocover/dendrocover/Network -/
def k2 : Class := { plain "com/example/dendrocover/dendrocover/Network" (some 0) with
  accessFlags := 48
  interfaces := #[]
  cf := some (fileOf pool2 8 #[] #[{ accessFlags := 0, nameIndex := 5, descriptorIndex := 32, attributes := #[] }, { accessFlags := 0, nameIndex := 41, descriptorIndex := 42, attributes := #[] }] 48 2 #[] #[{ accessFlags := 18, nameIndex := 11, descriptorIndex := 12, attributes := #[] }, { accessFlags := 18, nameIndex := 15, descriptorIndex := 12, attributes := #[] }, { accessFlags := 18, nameIndex := 18, descriptorIndex := 19, attributes := #[] }, { accessFlags := 18, nameIndex := 22, descriptorIndex := 19, attributes := #[] }, { accessFlags := 18, nameIndex := 25, descriptorIndex := 19, attributes := #[] }, { accessFlags := 18, nameIndex := 28, descriptorIndex := 19, attributes := #[] }, { accessFlags := 18, nameIndex := 31, descriptorIndex := 19, attributes := #[] }])
  fields := #[{ name := "vertexCount", type := .int, accessFlags := 18, slot := 0, constantValue := 0 }, { name := "roadCount", type := .int, accessFlags := 18, slot := 1, constantValue := 0 }, { name := "firstEnd", type := (.array .int), accessFlags := 18, slot := 2, constantValue := 0 }, { name := "secondEnd", type := (.array .int), accessFlags := 18, slot := 3, constantValue := 0 }, { name := "length", type := (.array .int), accessFlags := 18, slot := 4, constantValue := 0 }, { name := "incidenceStart", type := (.array .int), accessFlags := 18, slot := 5, constantValue := 0 }, { name := "incident", type := (.array .int), accessFlags := 18, slot := 6, constantValue := 0 }]
  methods := #[k2m0, k2m1]
  instanceTypes := #[.int, .int, (.array .int), (.array .int), (.array .int), (.array .int), (.array .int)]
  staticTypes := #[]
  resolved := Array.replicate 47 none
  statics := none }

def pool3 : Array CpInfo := pool [(1, u "java/lang/Cloneable"), (0, .class_ 1), (0, u "java/lang/Object"), (0, .class_ 3)] 3

/-- java/lang/Cloneable -/
def k3 : Class := { plain "java/lang/Cloneable" (some 0) with
  accessFlags := 1537
  interfaces := #[]
  cf := some (fileOf pool3 2 #[] #[] 1537 4 #[] #[])
  fields := #[]
  methods := #[]
  instanceTypes := #[]
  staticTypes := #[]
  resolved := Array.replicate 8 none
  statics := none }

def pool4 : Array CpInfo := pool [(1, u "java/io/Serializable"), (0, .class_ 1), (0, u "java/lang/Object"), (0, .class_ 3)] 3

/-- java/io/Serializable -/
def k4 : Class := { plain "java/io/Serializable" (some 0) with
  accessFlags := 1537
  interfaces := #[]
  cf := some (fileOf pool4 2 #[] #[] 1537 4 #[] #[])
  fields := #[]
  methods := #[]
  instanceTypes := #[]
  staticTypes := #[]
  resolved := Array.replicate 8 none
  statics := none }

/-- the primitive byte -/
def k5 : Class := { plain "byte" none with kind := .primitive 'B', accessFlags := 0x411 }
/-- [B -/
def k6 : Class := { plain "[B" (some 0) with kind := .array 5 .byte, interfaces := #[3, 4], accessFlags := 1041 }

/-- the primitive int -/
def k7 : Class := { plain "int" none with kind := .primitive 'I', accessFlags := 0x411 }
/-- [I -/
def k8 : Class := { plain "[I" (some 0) with kind := .array 7 .int, interfaces := #[3, 4], accessFlags := 1041 }

def heap : Heap := #[]
def classes : Array Class := #[k0, k1, k2, k3, k4, k5, k6, k7, k8]
def interned : List (Array UInt16 × Addr) := []
def slotsUsed : Nat := 0
def theMethod : MethodId := ⟨1, 1⟩
def args0 : Array Value := #[.int 3, .int 5, .int 7, .int 2, .int 9, .int 1]
def aboutOver (below : List Frame) : State where
  vm := { classes := classes, interned := interned.toArray }
  heap := heap
  slotsUsed := slotsUsed
  threads := #[{ frames := .invoking theMethod args0 :: below }]
def below0 : List Frame := [.native { method := ⟨0, 0⟩, args := #[] }]
def about1 : State := aboutOver below0
def p0 : Program := .bare "" "" ""
def e0 : Env := launch0.env 0 0 0
theorem w_frames : about1.frames = Frame.invoking theMethod args0 :: below0 := rfl
set_option maxRecDepth 65536 in
theorem w_args : argsFit about1.vm theMethod args0 = true := by decide +kernel
set_option maxRecDepth 65536 in
theorem w_heap : heapFits about1 = true := by decide +kernel
set_option maxRecDepth 65536 in
theorem w_runnable : about1.curStatus? = some .runnable := by decide +kernel
set_option maxRecDepth 65536 in
theorem w_alone : about1.alone = true := by decide +kernel
set_option maxRecDepth 65536 in
theorem w_named : about1.methodNamed? x = some theMethod := by decide +kernel
set_option maxRecDepth 65536 in
theorem w_hears : about1.hears theMethod below0 = true := by decide +kernel
set_option maxRecDepth 65536 in
theorem w_ripe : about1.ripe theMethod args0 below0 = true := by decide +kernel
theorem w_running : about1.status = .running := rfl
set_option maxRecDepth 65536 in
theorem w_room : about1.hasRoom e0.platform room_1 = true :=
  launch0.hasRoom_least _ room_1 (by decide +kernel) (by decide +kernel) (by decide +kernel) (by decide +kernel) (by decide +kernel) (by decide +kernel)
theorem allAtoms_all (ts : List Jvm.Cond) (a : Array Jvm.Value) (st : Jvm.State) : (allAtoms ts).before a st = ts.all (fun c => c.before a st) := by
  induction ts with
  | nil => rfl
  | cons c t ih =>
    show (Jvm.Cond.and c (allAtoms t)).before a st = _
    rw [Jvm.Cond.before_and, ih, List.all_cons]
def words1 : List Jvm.Cond := Jvm.Cond.code x code maxLocals ret :: tables_1
/-- a 'code' word, met by the world's own term for the bytes: nothing is compared byte by byte -/
theorem code_word {y : MethodName} {bytes : ByteArray} {mx : Nat} {rt : Option FieldType} {a : Array Value} {s : State} {m : MethodId} {meth : Method} {c : Code} (h1 : s.methodNamed? y = some m) (h2 : s.vm.method? m = some meth) (h3 : meth.code = some c) (h4 : c.code = bytes)
    (h5 : (c.maxLocals == mx && c.exceptionTable.isEmpty && decide (c.maxStack ≤ mostOperands) && decide (meth.sig.returnType = rt) && !meth.locks && decide (parseMethodDescriptor y.desc = some meth.sig)) = true) : (Jvm.Cond.code y bytes mx rt).before a s = true := by
  simp only [Bool.and_eq_true, beq_iff_eq, Bool.not_eq_true', decide_eq_true_eq] at h5
  obtain ⟨⟨⟨⟨⟨g1, g2⟩, g3⟩, g4⟩, g5⟩, g6⟩ := h5
  simp [Cond.before, Cond.holds, Cond.value, h1, h2, h3, h4, g1, g2, g3, g4, g5, g6]
def isCode : Jvm.Cond → Bool
  | .code _ _ _ _ => true
  | _ => false
theorem all_split {L : List Jvm.Cond} {P : Jvm.Cond → Bool} (h1 : L.all (fun c => isCode c || P c) = true) (h2 : ∀ c ∈ L.filter isCode, P c = true) : L.all P = true := by
  refine List.all_eq_true.mpr fun c hc => ?_
  have h := List.all_eq_true.mp h1 c hc
  rcases Bool.eq_false_or_eq_true (isCode c) with hi | hi
  · exact h2 c (List.mem_filter.mpr ⟨hc, hi⟩)
  · simpa [hi] using h
set_option maxRecDepth 65536 in
theorem w_c0 : (Jvm.Cond.code x code maxLocals ret).before args0 about1 = true := code_word (m := ⟨1, 1⟩) (meth := k1m1) (c := k1c1) (by decide +kernel) rfl rfl rfl (by decide +kernel)
set_option maxRecDepth 65536 in
theorem w_c1 : (Jvm.Cond.code ({ cls := "com/example/dendrocover/dendrocover/Network", name := "<init>", desc := "(II[I[I[I)V" } : Jvm.MethodName) prog_20_method_1_code (8 : Nat) (Option.none : Option Jvm.ClassFile.FieldType)).before args0 about1 = true := code_word (m := ⟨2, 0⟩) (meth := k2m0) (c := k2c0) (by decide +kernel) rfl rfl rfl (by decide +kernel)
set_option maxRecDepth 65536 in
theorem w_c2 : (Jvm.Cond.code ({ cls := "java/lang/Object", name := "<init>", desc := "()V" } : Jvm.MethodName) object_method_1_code (1 : Nat) (Option.none : Option Jvm.ClassFile.FieldType)).before args0 about1 = true := code_word (m := ⟨0, 0⟩) (meth := k0m0) (c := k0c0) (by decide +kernel) rfl rfl rfl (by decide +kernel)
set_option maxRecDepth 65536 in
theorem w_c3 : (Jvm.Cond.code ({ cls := "com/example/dendrocover/dendrocover/Network", name := "otherEnd", desc := "(II)I" } : Jvm.MethodName) prog_20_method_8_code (3 : Nat) (Option.some Jvm.ClassFile.FieldType.int)).before args0 about1 = true := code_word (m := ⟨2, 1⟩) (meth := k2m1) (c := k2c1) (by decide +kernel) rfl rfl rfl (by decide +kernel)
def codes1 : List Jvm.Cond := [Jvm.Cond.code x code maxLocals ret, Jvm.Cond.code ({ cls := "com/example/dendrocover/dendrocover/Network", name := "<init>", desc := "(II[I[I[I)V" } : Jvm.MethodName) prog_20_method_1_code (8 : Nat) (Option.none : Option Jvm.ClassFile.FieldType), Jvm.Cond.code ({ cls := "java/lang/Object", name := "<init>", desc := "()V" } : Jvm.MethodName) object_method_1_code (1 : Nat) (Option.none : Option Jvm.ClassFile.FieldType), Jvm.Cond.code ({ cls := "com/example/dendrocover/dendrocover/Network", name := "otherEnd", desc := "(II)I" } : Jvm.MethodName) prog_20_method_8_code (3 : Nat) (Option.some Jvm.ClassFile.FieldType.int)]
set_option maxRecDepth 65536 in
theorem codes_eq : words1.filter isCode = codes1 := rfl
theorem w_codes : ∀ c ∈ words1.filter isCode, c.before args0 about1 = true := by
  rw [codes_eq]
  intro c hc
  simp only [codes1, List.mem_cons, List.not_mem_nil, or_false] at hc
  rcases hc with rfl | rfl | rfl | rfl
  · exact w_c0
  · exact w_c1
  · exact w_c2
  · exact w_c3
set_option maxRecDepth 65536 in
theorem w_t1 : (words1.take 24).all (fun c => isCode c || c.before args0 about1) = true := by decide +kernel
set_option maxRecDepth 65536 in
theorem w_t2 : (words1.drop 24).all (fun c => isCode c || c.before args0 about1) = true := by decide +kernel
theorem w_tables : (allAtoms (Jvm.Cond.code x code maxLocals ret :: tables_1)).before args0 about1 = true := by
  rw [allAtoms_all]
  show words1.all (fun c => c.before args0 about1) = true
  refine all_split ?_ w_codes
  rw [← List.take_append_drop 24 words1, List.all_append, w_t1, w_t2]
  rfl
set_option maxRecDepth 65536 in
theorem w_case : (Jvm.Cond.and given_1 narrow_1).before args0 about1 = true := by decide +kernel
theorem w_applies : (headSpec (Jvm.Cond.code x code maxLocals ret :: tables_1) room_1).applies x e0.platform about1 = true :=
  (Spec.applies_iff w_frames).mpr ⟨w_running, w_runnable, w_alone, w_named, w_hears, w_ripe, w_room, w_tables⟩
theorem atStart : AtStart classFile x code maxLocals ret World_1 tables_1 room_1 Calls_1 rest_1 Pre_1 launch0 p0 e0 about1 theMethod args0 below0 :=
  ⟨lists_1, trivial, launch0.admits_env _ _ _, launch0.least_env, fairChoices_fair.cas, fairChoices_fair.clock, w_frames, w_args, w_heap, w_applies, trivial, trivial, w_case⟩
end start1
theorem witness_1 : WitnessClaimed_1 := ⟨start1.p0, start1.e0, start1.about1, start1.theMethod, start1.args0, start1.below0, start1.atStart⟩
end Jvm.Pilot.@@N@@
