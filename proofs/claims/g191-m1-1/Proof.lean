import JvmDerived
import JvmDerived.Pilot.@@N@@Statement
import JvmDerived.Pilot.@@N@@Code
set_option linter.unusedVariables false
set_option linter.unusedSimpArgs false
namespace Jvm.RoadKit
open Sem ClassFile Op Lib Jvm.Stand Jvm.Free Jvm.LawKit
section New
variable {p : Program} {l : Launch} {e : Env} {R : Room} {s : State} {m : MethodId} {args : Array Value} {below : List Frame} {meth : Method} {c : Code} {T : State} {locs : List Loc} {cells slots : Nat}
theorem retI (X : Stand p l e R s m args below meth c T locs cells slots) (hx : p.tables.exec = Jvm.exec) {pc : Nat} {Ls : Array Slot} {z : Int32} {rest : List Value} (hret : meth.sig.returnType = some .int) (hd : decode c.code pc = .ok (.ireturn, 1)) {fs : List Frame}
    (hl : ∀ (f : JFrame) (acts : List Action), f.method = m → f.locked = none → f.entered = [] → (doReturn e (T.setTop f) acts (some (.int z))).1 = T.setFrames fs) : Steps p.tables e below (T.setTop (mkF m pc Ls (.int z :: rest))) (T.setFrames fs) := by
  have hm' : T.vm.method? m = some meth := X.method'
  have hn : narrow .int (.int z) = .int z := rfl
  show Steps p.tables e below (T.setTop { method := m, pc := pc, locals := Ls, stack := _ :: rest, locked := none }) _
  jvm_step X.here [X.here.top, hx, hd, hm', hret, hn]
  first | (intro acts; rw [hl _ acts rfl rfl rfl]) | rw [hl _ _ rfl rfl rfl]
  exact Steps.refl _
end New
end Jvm.RoadKit
namespace Jvm.Pilot.@@N@@
open Jvm Jvm.ClassFile Sem Op Lib Jvm.Free Jvm.Stand Jvm.LawKit Jvm.RoadKit Bundle Jvm.Pilot.@@N@@.Jvm.D
section OwnKit
/-- the rest of a body ends well: from the state U on it comes to its end, what it returns and leaves is as Q says -/
def Done (p : Program) (e : Env) (below : List Frame) (s : State) (Q : Option Value → Heap → List Loc → Prop) (C S : Nat) (U : State) : Prop :=
  ∃ s₂ o, Steps p.tables e below U s₂ ∧ s₂.status = .running ∧ Ended s₂ below o ∧ ∃ v L, o = .returned v ∧ Q v s₂.heap L ∧ FrameEnd s o s₂ L C S
variable {p : Program} {l : Launch} {e : Env} {R : Room} {s : State} {m : MethodId} {args : Array Value} {below : List Frame} {meth : Method} {c : Code} {T U U' : State} {locs : List Loc} {cells slots C S : Nat} {Q : Option Value → Heap → List Loc → Prop}
theorem Done.step (h : ∀ t, Steps p.tables e below U' t → Steps p.tables e below U t) (d : Done p e below s Q C S U') : Done p e below s Q C S U := by
  obtain ⟨s₂, o, h1, r⟩ := d
  exact ⟨s₂, o, h _ h1, r⟩
theorem Done.far (h : Steps p.tables e below U U') (d : Done p e below s Q C S U') : Done p e below s Q C S U := by
  obtain ⟨s₂, o, h1, r⟩ := d
  exact ⟨s₂, o, h.trans h1, r⟩
theorem Done.mono {Q' : Option Value → Heap → List Loc → Prop} (d : Done p e below s Q C S U) (h : ∀ v h L, Q v h L → Q' v h L) : Done p e below s Q' C S U := by
  obtain ⟨s₂, o, h1, h2, h3, v, L, h4, h5, h6⟩ := d
  exact ⟨s₂, o, h1, h2, h3, v, L, h4, h _ _ _ h5, h6⟩
theorem Done.int (X : Stand p l e R s m args below meth c T locs cells slots) (hx : p.tables.exec = Jvm.exec) (hlk : meth.locks = false) (hret : meth.sig.returnType = some .int) {pc : Nat} {Ls : Array Slot} {z : Int32} {rest : List Value} (hd : decode c.code pc = .ok (.ireturn, 1)) (hc : cells ≤ C) (hs : slots ≤ S)
    (hq : Q (some (.int z)) T.heap locs) : Done p e below s Q C S (T.setTop (mkF m pc Ls (.int z :: rest))) := by
  obtain ⟨fs, hr, hrun, hended, hW, hsame⟩ := X.leave (v := some (.int z)) (fun h => by rw [hret] at h; cases h)
  exact ⟨_, _, retI X hx hret hd hr, hrun, hended, _, _, rfl, hq, ⟨_, rfl⟩, hW, hsame.mono hc hs⟩
theorem Done.narr (X : Stand p l e R s m args below meth c T locs cells slots) (hx : p.tables.exec = Jvm.exec) (hlk : meth.locks = false) {t : FieldType} (hret : meth.sig.returnType = some t) (ht : t = .boolean ∨ t = .byte ∨ t = .char ∨ t = .short) {pc : Nat} {Ls : Array Slot} {z : Int32} {rest : List Value} (hd : decode c.code pc = .ok (.ireturn, 1)) (hc : cells ≤ C) (hs : slots ≤ S)
    (hq : Q (some (.int (nar t z))) T.heap locs) : Done p e below s Q C S (T.setTop (mkF m pc Ls (.int z :: rest))) := by
  obtain ⟨fs, hr, hrun, hended, hW, hsame⟩ := X.leave (v := some (.int (nar t z))) (fun h => by rw [hret] at h; cases h)
  exact ⟨_, _, retN X hx hret ht hd hr, hrun, hended, _, _, rfl, hq, ⟨_, rfl⟩, hW, hsame.mono hc hs⟩
theorem Done.long (X : Stand p l e R s m args below meth c T locs cells slots) (hx : p.tables.exec = Jvm.exec) (hlk : meth.locks = false) (hret : meth.sig.returnType = some .long) {pc : Nat} {Ls : Array Slot} {z : Int64} {rest : List Value} (hd : decode c.code pc = .ok (.lreturn, 1)) (hc : cells ≤ C) (hs : slots ≤ S)
    (hq : Q (some (.long z)) T.heap locs) : Done p e below s Q C S (T.setTop (mkF m pc Ls (.long z :: rest))) := by
  obtain ⟨fs, hr, hrun, hended, hW, hsame⟩ := X.leave (v := some (.long z)) (fun h => by rw [hret] at h; cases h)
  exact ⟨_, _, retOut X hx hret rfl (Or.inr (Or.inl ⟨rfl, rfl, z, rfl⟩)) hd hr, hrun, hended, _, _, rfl, hq, ⟨_, rfl⟩, hW, hsame.mono hc hs⟩
theorem Done.ref (X : Stand p l e R s m args below meth c T locs cells slots) (hx : p.tables.exec = Jvm.exec) (hlk : meth.locks = false) {t : FieldType} (hret : meth.sig.returnType = some t) (ht : t.isReference = true) {pc : Nat} {Ls : Array Slot} {w : Value} {rest : List Value} (hw : w.isRef = true) (hn : narrow t w = w) (hd : decode c.code pc = .ok (.areturn, 1)) (hc : cells ≤ C) (hs : slots ≤ S)
    (hq : Q (some w) T.heap locs) : Done p e below s Q C S (T.setTop (mkF m pc Ls (w :: rest))) := by
  obtain ⟨fs, hr, hrun, hended, hW, hsame⟩ := X.leave (v := some w) (fun h => by rw [hret] at h; cases h)
  exact ⟨_, _, retOut X hx hret hn (Or.inr (Or.inr (Or.inr (Or.inr ⟨rfl, ht, hw⟩)))) hd hr, hrun, hended, _, _, rfl, hq, ⟨_, rfl⟩, hW, hsame.mono hc hs⟩
theorem Done.void (X : Stand p l e R s m args below meth c T locs cells slots) (hx : p.tables.exec = Jvm.exec) (hlk : meth.locks = false) (hret : meth.sig.returnType = none) {pc : Nat} {Ls : Array Slot} (hd : decode c.code pc = .ok (.return_, 1)) (hc : cells ≤ C) (hs : slots ≤ S)
    (hq : Q none T.heap locs) : Done p e below s Q C S (T.setTop (mkF m pc Ls [])) := by
  obtain ⟨fs, hr, hrun, hended, hW, hsame⟩ := X.leave (v := none) (fun _ => rfl)
  exact ⟨_, _, X.returnOut hx hret hd hr, hrun, hended, _, _, rfl, hq, ⟨_, rfl⟩, hW, hsame.mono hc hs⟩
variable {Z : State} {h h' h0 : Heap} {a b : Addr} {ty : FieldType} {vs : List Value} {sl : Nat} {v x : Value} {ws : List Addr} {j : Int32} {g : JFrame} {rest : List Value}
/-- an array whose slots are just the list vs -/
def Ax (Z : State) (h : Heap) (a : Addr) (ty : FieldType) (vs : List Value) : Prop := ∃ c : Cell, Arr Z h a c ty ∧ c.slots = vs.toArray
theorem Ax.lt (F : Ax Z h a ty vs) : a < h.size := by obtain ⟨c, A, -⟩ := F; exact A.lt
theorem Ax.ext (F : Ax Z h a ty vs) (E : Ext h h') : Ax Z h' a ty vs := by obtain ⟨c, A, r⟩ := F; exact ⟨c, A.ext E, r⟩
theorem Ax.other (F : Ax Z h b ty vs) (W : Wr h h' a sl v) (q : b ≠ a) : Ax Z h' b ty vs := by obtain ⟨c, A, r⟩ := F; exact ⟨c, A.other W q, r⟩
theorem Ax.keep (F : Ax Z h a ty vs) (K : Keep h h' ws) (q : a ∉ ws) : Ax Z h' a ty vs := by obtain ⟨c, A, r⟩ := F; exact ⟨c, ⟨K.2.1 a c A.1 q, A.2⟩, r⟩
theorem own_stakeep {C n d : String} (F : Sta Z h C n d v) (K : Keep h h' ws) (q : ∀ y ∈ ws, ∃ cell : Cell, h[y]? = some cell ∧ cell.vm.isStatics = false) : Sta Z h' C n d v := by
  obtain ⟨cf, i, k, f, st, cell, h1, h2, h3, h4, h5, h6, h7⟩ := F
  refine ⟨cf, i, k, f, st, cell, h1, h2, h3, h4, K.2.1 st cell h5 (fun z => ?_), h6, h7⟩
  obtain ⟨c', g1, g2⟩ := q st z
  cases h5.symm.trans g1; rw [g2] at h6; cases h6
theorem own_unst {C : String} (F : Exa Z h a C) : ∃ cell : Cell, h[a]? = some cell ∧ cell.vm.isStatics = false := by
  obtain ⟨cell, k, h1, -, -, h4, -⟩ := F; exact ⟨cell, h1, h4⟩
theorem fld_long {t : Term} {D n d : String} {k : Int64} {y : Addr} {av : Array Value} (hh : (Jvm.Cond.eq (Term.field t D n d) (Term.long k)).value av Z none Z [] = some true) (ht : t.eval av Z none [] Z = some (.ref y)) : Fld Z Z.heap y D n d (.long k) := by
  obtain ⟨u, w, e1, e2, k1, k2⟩ := cmp_v (Or.inl hh)
  have e3 : (Term.long k).eval av Z none [] Z = some (.long k) := rfl
  rw [e3] at e2; cases e2
  obtain ⟨z, rfl⟩ := k2
  have q := gotT (eq_L e1 e3) hh
  subst q
  rw [fld_at ht] at e1
  exact Fld.start e1
theorem fld_int {t : Term} {D n d : String} {k : Int32} {y : Addr} {av : Array Value} (hh : (Jvm.Cond.eq (Term.field t D n d) (Term.int k)).value av Z none Z [] = some true) (ht : t.eval av Z none [] Z = some (.ref y)) : Fld Z Z.heap y D n d (.int k) := by
  obtain ⟨u, w, e1, e2, k1, k2⟩ := cmp_v (Or.inl hh)
  have e3 : (Term.int k).eval av Z none [] Z = some (.int k) := rfl
  rw [e3] at e2; cases e2
  obtain ⟨z, rfl⟩ := k2
  have q : z = k := by simpa [Jvm.Cond.value, e1, e3] using hh
  subst q
  rw [fld_at ht] at e1
  exact Fld.start e1
theorem Ax.set (F : Ax Z h a ty vs) (W : Wr h h' a sl v) : Ax Z h' a ty (vs.set sl v) := by
  obtain ⟨c, A, r⟩ := F
  exact ⟨_, A.same W, by rw [show (c.setSlot sl v).slots = c.slots.setIfInBounds sl v from rfl, r, List.setIfInBounds_toArray]⟩
theorem Ax.new {k : ClassId} {n : Int32} {i : Nat} (A : Arr Z h a (newA k ty n) ty) (hi : n.toNatClampNeg = i) : Ax Z h a ty (List.replicate i (defaultValue ty)) :=
  ⟨_, A, by rw [show (newA k ty n).slots = Array.replicate n.toNatClampNeg (defaultValue ty) from rfl, hi, List.toArray_replicate]⟩
theorem Ax.size {c : Cell} (r : c.slots = vs.toArray) : c.slots.size = vs.length := by rw [r, List.size_toArray]
theorem Ax.inb {c : Cell} (r : c.slots = vs.toArray) (hj : ¬ j < 0) (hl : j.toNatClampNeg < vs.length) : ¬ (j < 0 ∨ c.slots.size ≤ j.toNatClampNeg) := fun q => q.elim hj fun u => by
  rw [Ax.size r] at u; exact absurd hl (Nat.not_lt.mpr u)
theorem Ax.get {c : Cell} (r : c.slots = vs.toArray) (hat : vs[j.toNatClampNeg]? = some x) : c.slots[j.toNatClampNeg]? = some x := by rw [r, List.getElem?_toArray]; exact hat
theorem Ax.lens (hat : vs[j.toNatClampNeg]? = some x) : j.toNatClampNeg < vs.length := (List.getElem?_eq_some_iff.mp hat).1
theorem ldI (X : Stand p l e R s m args below meth c T locs cells slots) (hx : p.tables.exec = Jvm.exec) (hZ : Z.Warmed39 s.vm) (eT : T.heap = h) (F : Ax Z h a .int vs) (hj : ¬ j < 0) (hat : vs[j.toNatClampNeg]? = some x) (hg : g.method = m) (hs : g.stack = .int j :: .ref a :: rest) (hd : decode c.code g.pc = .ok (.iaload, 1)) :
    ∀ target, Steps p.tables e below (T.setTop { g with pc := g.pc + 1, stack := x :: rest }) target → Steps p.tables e below (T.setTop g) target := by
  obtain ⟨cl, A, r⟩ := F
  exact X.iaload hx (by rw [eT]; exact A.1) (State.isArrayOf_alike hZ.alike A.2.1) A.2.2 (Ax.inb r hj (Ax.lens hat)) (Ax.get r hat) hg hs hd
theorem ldJ (X : Stand p l e R s m args below meth c T locs cells slots) (hx : p.tables.exec = Jvm.exec) (hZ : Z.Warmed39 s.vm) (eT : T.heap = h) (F : Ax Z h a .long vs) (hj : ¬ j < 0) (hat : vs[j.toNatClampNeg]? = some x) (hg : g.method = m) (hs : g.stack = .int j :: .ref a :: rest) (hd : decode c.code g.pc = .ok (.laload, 1)) :
    ∀ target, Steps p.tables e below (T.setTop { g with pc := g.pc + 1, stack := x :: rest }) target → Steps p.tables e below (T.setTop g) target := by
  obtain ⟨cl, A, r⟩ := F
  exact X.laload hx (by rw [eT]; exact A.1) (State.isArrayOf_alike hZ.alike A.2.1) A.2.2 (Ax.inb r hj (Ax.lens hat)) (Ax.get r hat) hg hs hd
theorem ldB (X : Stand p l e R s m args below meth c T locs cells slots) (hx : p.tables.exec = Jvm.exec) (hZ : Z.Warmed39 s.vm) (eT : T.heap = h) (F : Ax Z h a .byte vs) (hj : ¬ j < 0) (hat : vs[j.toNatClampNeg]? = some x) (hg : g.method = m) (hs : g.stack = .int j :: .ref a :: rest) (hd : decode c.code g.pc = .ok (.baload, 1)) :
    ∀ target, Steps p.tables e below (T.setTop { g with pc := g.pc + 1, stack := x :: rest }) target → Steps p.tables e below (T.setTop g) target := by
  obtain ⟨cl, A, r⟩ := F
  exact X.baloadBytes hx (by rw [eT]; exact A.1) (State.isArrayOf_alike hZ.alike A.2.1) A.2.2 (Ax.inb r hj (Ax.lens hat)) (Ax.get r hat) hg hs hd
theorem ldZ (X : Stand p l e R s m args below meth c T locs cells slots) (hx : p.tables.exec = Jvm.exec) (hZ : Z.Warmed39 s.vm) (eT : T.heap = h) (F : Ax Z h a .boolean vs) (hj : ¬ j < 0) (hat : vs[j.toNatClampNeg]? = some x) (hg : g.method = m) (hs : g.stack = .int j :: .ref a :: rest) (hd : decode c.code g.pc = .ok (.baload, 1)) :
    ∀ target, Steps p.tables e below (T.setTop { g with pc := g.pc + 1, stack := x :: rest }) target → Steps p.tables e below (T.setTop g) target := by
  obtain ⟨cl, A, r⟩ := F
  exact X.baloadBooleans hx (by rw [eT]; exact A.1) (State.isArrayOf_alike hZ.alike A.2.1) A.2.2 (Ax.inb r hj (Ax.lens hat)) (Ax.get r hat) hg hs hd
theorem lenA (X : Stand p l e R s m args below meth c T locs cells slots) (hx : p.tables.exec = Jvm.exec) (hZ : Z.Warmed39 s.vm) (eT : T.heap = h) (F : Ax Z h a ty vs) {n : Int32} (hn : vs.length.toInt32 = n) (hg : g.method = m) (hs : g.stack = .ref a :: rest) (hd : decode c.code g.pc = .ok (.arraylength, 1)) :
    ∀ target, Steps p.tables e below (T.setTop { g with pc := g.pc + 1, stack := .int n :: rest }) target → Steps p.tables e below (T.setTop g) target := by
  obtain ⟨cl, A, r⟩ := F
  intro target k
  refine X.arraylength hx (by rw [eT]; exact A.1) (State.isArrayOf_alike hZ.alike A.2.1) hg hs hd target ?_
  rw [Ax.size r, hn]; exact k
theorem stoI (X : Stand p l e R s m args below meth c T locs cells slots) (hx : p.tables.exec = Jvm.exec) (hZ : Z.Warmed39 s.vm) (eT : T.heap = h) (F : Ax Z h a .int vs) {y : Int32} (hj : ¬ j < 0) {i : Nat} (hi : j.toNatClampNeg = i) (hl : i < vs.length) (hg : g.method = m) (hs : g.stack = .int y :: .int j :: .ref a :: rest) (hd : decode c.code g.pc = .ok (.iastore, 1)) :
    ∃ T' h', Stand p l e R s m args below meth c T' (locs ++ [⟨a, j.toNatClampNeg⟩]) cells slots ∧ T'.heap = h' ∧ Wr h h' a j.toNatClampNeg (.int y) ∧ Ax Z h' a .int (vs.set i (.int y)) ∧ ∀ target, Steps p.tables e below (T'.setTop { g with pc := g.pc + 1, stack := rest }) target → Steps p.tables e below (T.setTop g) target := by
  obtain ⟨cl, A, r⟩ := F
  obtain ⟨T', h', X', e', W, st⟩ := stI X hx hZ eT A (Ax.inb r hj (by rw [hi]; exact hl)) hg hs hd
  exact ⟨T', h', X', e', W, hi ▸ Ax.set ⟨cl, A, r⟩ W, st⟩
theorem stoJ (X : Stand p l e R s m args below meth c T locs cells slots) (hx : p.tables.exec = Jvm.exec) (hZ : Z.Warmed39 s.vm) (eT : T.heap = h) (F : Ax Z h a .long vs) {y : Int64} (hj : ¬ j < 0) {i : Nat} (hi : j.toNatClampNeg = i) (hl : i < vs.length) (hg : g.method = m) (hs : g.stack = .long y :: .int j :: .ref a :: rest) (hd : decode c.code g.pc = .ok (.lastore, 1)) :
    ∃ T' h', Stand p l e R s m args below meth c T' (locs ++ [⟨a, j.toNatClampNeg⟩]) cells slots ∧ T'.heap = h' ∧ Wr h h' a j.toNatClampNeg (.long y) ∧ Ax Z h' a .long (vs.set i (.long y)) ∧ ∀ target, Steps p.tables e below (T'.setTop { g with pc := g.pc + 1, stack := rest }) target → Steps p.tables e below (T.setTop g) target := by
  obtain ⟨cl, A, r⟩ := F
  obtain ⟨T', h', X', e', W, st⟩ := stJ X hx hZ eT A (Ax.inb r hj (by rw [hi]; exact hl)) hg hs hd
  exact ⟨T', h', X', e', W, hi ▸ Ax.set ⟨cl, A, r⟩ W, st⟩
theorem stoB (X : Stand p l e R s m args below meth c T locs cells slots) (hx : p.tables.exec = Jvm.exec) (hZ : Z.Warmed39 s.vm) (eT : T.heap = h) (F : Ax Z h a .byte vs) {y : Int32} (hj : ¬ j < 0) {i : Nat} (hi : j.toNatClampNeg = i) (hl : i < vs.length) (hg : g.method = m) (hs : g.stack = .int y :: .int j :: .ref a :: rest) (hd : decode c.code g.pc = .ok (.bastore, 1)) :
    ∃ T' h', Stand p l e R s m args below meth c T' (locs ++ [⟨a, j.toNatClampNeg⟩]) cells slots ∧ T'.heap = h' ∧ Wr h h' a j.toNatClampNeg (.int (nar .byte y)) ∧ Ax Z h' a .byte (vs.set i (.int (nar .byte y))) ∧ ∀ target, Steps p.tables e below (T'.setTop { g with pc := g.pc + 1, stack := rest }) target → Steps p.tables e below (T.setTop g) target := by
  obtain ⟨cl, A, r⟩ := F
  obtain ⟨T', h', X', e', W, st⟩ := stB X hx hZ eT A (Ax.inb r hj (by rw [hi]; exact hl)) hg hs hd
  exact ⟨T', h', X', e', W, hi ▸ Ax.set ⟨cl, A, r⟩ W, st⟩
theorem stoZ (X : Stand p l e R s m args below meth c T locs cells slots) (hx : p.tables.exec = Jvm.exec) (hZ : Z.Warmed39 s.vm) (eT : T.heap = h) (F : Ax Z h a .boolean vs) {y : Int32} (hj : ¬ j < 0) {i : Nat} (hi : j.toNatClampNeg = i) (hl : i < vs.length) (hg : g.method = m) (hs : g.stack = .int y :: .int j :: .ref a :: rest) (hd : decode c.code g.pc = .ok (.bastore, 1)) :
    ∃ T' h', Stand p l e R s m args below meth c T' (locs ++ [⟨a, j.toNatClampNeg⟩]) cells slots ∧ T'.heap = h' ∧ Wr h h' a j.toNatClampNeg (.int (nar .boolean y)) ∧ Ax Z h' a .boolean (vs.set i (.int (nar .boolean y))) ∧ ∀ target, Steps p.tables e below (T'.setTop { g with pc := g.pc + 1, stack := rest }) target → Steps p.tables e below (T.setTop g) target := by
  obtain ⟨cl, A, r⟩ := F
  obtain ⟨T', h', X', e', W, st⟩ := stZ X hx hZ eT A (Ax.inb r hj (by rw [hi]; exact hl)) hg hs hd
  exact ⟨T', h', X', e', W, hi ▸ Ax.set ⟨cl, A, r⟩ W, st⟩
theorem cloX (X : Stand p l e R s m args below meth c T locs cells slots) (hx : p.tables.exec = Jvm.exec) (hZ : Z.Warmed39 s.vm) {a0 : Array Value} {own ad : String} {index : Nat} (hown : s.vm.findClass own = some m.cls)
    (w1 : (Cond.methodLink own index ⟨ad, "clone", "()Ljava/lang/Object;"⟩).before a0 Z = true) (w2 : (Cond.sameMethod ad "java/lang/Object" "clone" "()Ljava/lang/Object;").before a0 Z = true) (w3 : (Cond.native ⟨"java/lang/Object", "clone", "()Ljava/lang/Object;"⟩).before a0 Z = true)
    (w4 : (Cond.instanceMethod ⟨"java/lang/Object", "clone", "()Ljava/lang/Object;"⟩).before a0 Z = true) (w5 : (Cond.selects ad ⟨ad, "clone", "()Ljava/lang/Object;"⟩ ⟨"java/lang/Object", "clone", "()Ljava/lang/Object;"⟩).before a0 Z = true) (w6 : (Cond.castable ad "java/lang/Cloneable").before a0 Z = true)
    (eT : T.heap = h) (F : Ax Z h a ty vs) (E : Exa Z h a ad) (G : ∀ v ∈ vs, fits ty v = true) (hg : g.method = m) (hsize : g.locals.size = c.maxLocals) (hs : g.stack = .ref a :: rest) (hd : decode c.code g.pc = .ok (.invokevirtual index, 3))
    (hf : 1 ≤ R.frames) {W cap : Nat} (hW : 2 * g.monitorRoom + (rest.map fun v => v.category).sum ≤ W) (hl : W + 14 ≤ R.locals) (hcap : vs.length ≤ cap) (hc : cells + 1 ≤ R.cells) (hsl : slots + cap ≤ R.slots) :
    ∃ T' h', Stand p l e R s m args below meth c T' locs (cells + 1) (slots + cap) ∧ T'.heap = h' ∧ Ext h h' ∧ Ax Z h' h.size ty vs ∧ Exa Z h' h.size ad ∧
      ∀ target, Steps p.tables e below (T'.setTop { g with pc := g.pc + 3, stack := .ref h.size :: rest }) target → Steps p.tables e below (T.setTop g) target := by
  obtain ⟨cl, A, r⟩ := F
  have FC : FitC Z cl := fitC_of A fun i hi v hv => by
    rw [r, List.getElem?_toArray] at hv
    exact G v (List.mem_of_getElem? hv)
  obtain ⟨T', h', X', e', ex, A', E', st⟩ := cloneA X hx hZ hown w1 w2 w3 w4 w5 w6 eT A E FC hg hsize hs hd hf hW hl (by rw [Ax.size r]; exact hcap) hc hsl
  exact ⟨T', h', X', e', ex, ⟨cloneOf cl, A', r⟩, E', st⟩
end OwnKit
theorem pd_0 : parseMethodDescriptor "([J)V" = some ⟨[(.array .long)], none⟩ := by decide +kernel
theorem pd_1 : parseMethodDescriptor "(J)I" = some ⟨[.long], some .int⟩ := by decide +kernel
theorem pd_2 : parseMethodDescriptor "([JI)[J" = some ⟨[(.array .long), .int], some (.array .long)⟩ := by decide +kernel
theorem pd_3 : parseMethodDescriptor "([JII)V" = some ⟨[(.array .long), .int, .int], none⟩ := by decide +kernel
theorem d1_0 : decode method_3_code 0 = .ok (.aload_n 0, 1) := by decide +kernel
theorem d1_1 : decode method_3_code 1 = .ok (.iload_n 2, 1) := by decide +kernel
theorem d1_2 : decode method_3_code 2 = .ok (.laload, 1) := by decide +kernel
theorem d1_3 : decode method_3_code 3 = .ok (.aload_n 0, 1) := by decide +kernel
theorem d1_4 : decode method_3_code 4 = .ok (.iload_n 1, 1) := by decide +kernel
theorem d1_5 : decode method_3_code 5 = .ok (.laload, 1) := by decide +kernel
theorem d1_6 : decode method_3_code 6 = .ok (.lcmp, 1) := by decide +kernel
theorem d1_7 : decode method_3_code 7 = .ok (.ifCond .ge 17, 3) := by decide +kernel
theorem d1_10 : decode method_3_code 10 = .ok (.aload_n 0, 1) := by decide +kernel
theorem d1_11 : decode method_3_code 11 = .ok (.iload_n 1, 1) := by decide +kernel
theorem d1_12 : decode method_3_code 12 = .ok (.laload, 1) := by decide +kernel
theorem d1_13 : decode method_3_code 13 = .ok (.lstore_n 3, 1) := by decide +kernel
theorem d1_14 : decode method_3_code 14 = .ok (.aload_n 0, 1) := by decide +kernel
theorem d1_15 : decode method_3_code 15 = .ok (.iload_n 1, 1) := by decide +kernel
theorem d1_16 : decode method_3_code 16 = .ok (.aload_n 0, 1) := by decide +kernel
theorem d1_17 : decode method_3_code 17 = .ok (.iload_n 2, 1) := by decide +kernel
theorem d1_18 : decode method_3_code 18 = .ok (.laload, 1) := by decide +kernel
theorem d1_19 : decode method_3_code 19 = .ok (.lastore, 1) := by decide +kernel
theorem d1_20 : decode method_3_code 20 = .ok (.aload_n 0, 1) := by decide +kernel
theorem d1_21 : decode method_3_code 21 = .ok (.iload_n 2, 1) := by decide +kernel
theorem d1_22 : decode method_3_code 22 = .ok (.lload_n 3, 1) := by decide +kernel
theorem d1_23 : decode method_3_code 23 = .ok (.lastore, 1) := by decide +kernel
theorem d1_24 : decode method_3_code 24 = .ok (.return_, 1) := by decide +kernel
theorem pn_1 : plainName "com/example/upkeep/upkeep/core/PageChangesVersionAtPinLaw" = true := by first | (simp [plainName, overriddenIn]; done) | decide +kernel
theorem ef_1 (m : MethodId) (a1 : Addr) (p2 : Int32) (p3 : Int32) : entryFrame m #[(.ref a1), (.int p2), (.int p3)] 5 = mkF m 0 #[.val (.ref a1), .val (.int p2), .val (.int p3), .unset, .unset] [] := by first | (simp [entryFrame, mkF, argsToLocals, Value.category]; done) | rfl
def Qrmo01 (Z : State) (a1 : Addr) (p2 : Int32) (p3 : Int32) (v0 v1 v2 v3 : Int64) (h0 : Heap) (n0 : Nat) : Option Value → Heap → List Loc → Prop := fun v h L => v = none ∧ Fr n0 L ∧ Keep h0 h [a1] ∧ ∃ u t : Int64, Ax Z h a1 .long [(.long u), (.long t), (.long v2), (.long v3)] ∧ u.toInt ≤ t.toInt ∧ ((u = v0 ∧ t = v1) ∨ (u = v1 ∧ t = v0))
set_option maxRecDepth 65536 in
set_option maxHeartbeats 40000000 in
theorem rmo01 (l : Launch) (Z : State) (a0 : Array Value) (hw : ∀ d ∈ tables_1, d.before a0 Z = true) (ws : List Jvm.Cond) (a1 : Addr) (p2 : Int32) (p3 : Int32) (v0 v1 v2 v3 : Int64) (h0 : Heap) (n0 : Nat) (Z0 : n0 ≤ h0.size) (A1 : Ax Z h0 a1 .long [(.long v0), (.long v1), (.long v2), (.long v3)]) (g1 : n0 ≤ a1) (hp2 : p2 = (0 : Int32)) (hp3 : p3 = (1 : Int32)) :
    MetFree l (⟨"com/example/upkeep/upkeep/core/PageChangesVersionAtPinLaw", "order", "([JII)V"⟩ : MethodName) (head1 (Jvm.Cond.code (⟨"com/example/upkeep/upkeep/core/PageChangesVersionAtPinLaw", "order", "([JII)V"⟩ : MethodName) method_3_code 5 none :: ws) ({ frames := 0, cells := 0, slots := 0, locals := 0 } : Room)) (fun a U => a = #[(.ref a1), (.int p2), (.int p3)] ∧ Z.Warmed39 U.vm ∧ U.heap = h0) (fun _ _ _ _ _ => True) (fun _ U o U' => ∃ v L, o = .returned v ∧ Qrmo01 Z a1 p2 p3 v0 v1 v2 v3 h0 n0 v U'.heap L ∧ FrameEnd U o U' L ({ frames := 0, cells := 0, slots := 0, locals := 0 } : Room).cells ({ frames := 0, cells := 0, slots := 0, locals := 0 } : Room).slots) := by
  refine MetFree.of_bodySF (plainFor_of_name pn_1) hisR ?_
  intro p e s m args below meth c s₁ Bd hml0 hP hK
  obtain ⟨rfl, hZ, hh⟩ := hP
  have hx := Bd.exec
  have hby := Bd.bytes
  have hml : c.maxLocals = 5 := hml0
  have hown : s.vm.findClass "com/example/upkeep/upkeep/core/PageChangesVersionAtPinLaw" = some m.cls := findClass_of_methodNamed Bd.named
  have hnm := (name_of_methodNamed Bd.named Bd.method).1
  have hlk : meth.locks = false := BodyLoose.notSynchronized Bd
  have hret := Bd.returns
  have X0 : Stand p l e ({ frames := 0, cells := 0, slots := 0, locals := 0 } : Room) s m #[(.ref a1), (.int p2), (.int p3)] below meth c s₁ [] 0 0 := Stand.of_body Bd
  have e0 : s₁.heap = h0 := by rw [← hh, Bd.state]; rfl
  have N0 := Fr.nil n0
  show Done p e below s (Qrmo01 Z a1 p2 p3 v0 v1 v2 v3 h0 n0) ({ frames := 0, cells := 0, slots := 0, locals := 0 } : Room).cells ({ frames := 0, cells := 0, slots := 0, locals := 0 } : Room).slots (s₁.setTop (entryFrame m #[(.ref a1), (.int p2), (.int p3)] 5))
  refine Done.step (fun t k => castTop (ef_1 m a1 p2 p3) k) ?_
  subst hp2 hp3
  show Done p e below s _ _ _ (s₁.setTop (mkF m 0 #[.val (.ref a1), .val (.int (0 : Int32)), .val (.int (1 : Int32)), .unset, .unset] []))
  refine Done.step (fun t k => XS.aloadN X0.here hx rfl (hb hby d1_0) rfl rfl k) ?_
  show Done p e below s _ _ _ (s₁.setTop (mkF m 1 #[.val (.ref a1), .val (.int (0 : Int32)), .val (.int (1 : Int32)), .unset, .unset] [(.ref a1)]))
  refine Done.step (fun t k => XS.iloadN X0.here hx rfl (hb hby d1_1) rfl k) ?_
  show Done p e below s _ _ _ (s₁.setTop (mkF m 2 #[.val (.ref a1), .val (.int (0 : Int32)), .val (.int (1 : Int32)), .unset, .unset] [(.int (1 : Int32)), (.ref a1)]))
  refine Done.step (ldJ X0 hx hZ e0 A1 (j := (1 : Int32)) (x := (.long v1)) (by decide) rfl (g := (mkF m 2 #[.val (.ref a1), .val (.int (0 : Int32)), .val (.int (1 : Int32)), .unset, .unset] [(.int (1 : Int32)), (.ref a1)])) rfl rfl (hb hby d1_2)) ?_
  show Done p e below s _ _ _ (s₁.setTop (mkF m 3 #[.val (.ref a1), .val (.int (0 : Int32)), .val (.int (1 : Int32)), .unset, .unset] [(.long v1)]))
  refine Done.step (fun t k => XS.aloadN X0.here hx rfl (hb hby d1_3) rfl rfl k) ?_
  show Done p e below s _ _ _ (s₁.setTop (mkF m 4 #[.val (.ref a1), .val (.int (0 : Int32)), .val (.int (1 : Int32)), .unset, .unset] [(.ref a1), (.long v1)]))
  refine Done.step (fun t k => XS.iloadN X0.here hx rfl (hb hby d1_4) rfl k) ?_
  show Done p e below s _ _ _ (s₁.setTop (mkF m 5 #[.val (.ref a1), .val (.int (0 : Int32)), .val (.int (1 : Int32)), .unset, .unset] [(.int (0 : Int32)), (.ref a1), (.long v1)]))
  refine Done.step (ldJ X0 hx hZ e0 A1 (j := (0 : Int32)) (x := (.long v0)) (by decide) rfl (g := (mkF m 5 #[.val (.ref a1), .val (.int (0 : Int32)), .val (.int (1 : Int32)), .unset, .unset] [(.int (0 : Int32)), (.ref a1), (.long v1)])) rfl rfl (hb hby d1_5)) ?_
  show Done p e below s _ _ _ (s₁.setTop (mkF m 6 #[.val (.ref a1), .val (.int (0 : Int32)), .val (.int (1 : Int32)), .unset, .unset] [(.long v0), (.long v1)]))
  refine Done.step (fun t k => XS.lcmp X0.here hx rfl (hb hby d1_6) rfl k) ?_
  show Done p e below s _ _ _ (s₁.setTop (mkF m 7 #[.val (.ref a1), .val (.int (0 : Int32)), .val (.int (1 : Int32)), .unset, .unset] [(.int (lcmpW v1 v0))]))
  by_cases c1 : v1 < v0
  · refine Done.step (fun t k => XS.ifNo X0.here hx rfl (hb hby d1_7) rfl ((if0 _ _).trans (tlt ((lw_lt _ _).mpr c1)).2.1) k) ?_
    show Done p e below s _ _ _ (s₁.setTop (mkF m 10 #[.val (.ref a1), .val (.int (0 : Int32)), .val (.int (1 : Int32)), .unset, .unset] []))
    refine Done.step (fun t k => XS.aloadN X0.here hx rfl (hb hby d1_10) rfl rfl k) ?_
    show Done p e below s _ _ _ (s₁.setTop (mkF m 11 #[.val (.ref a1), .val (.int (0 : Int32)), .val (.int (1 : Int32)), .unset, .unset] [(.ref a1)]))
    refine Done.step (fun t k => XS.iloadN X0.here hx rfl (hb hby d1_11) rfl k) ?_
    show Done p e below s _ _ _ (s₁.setTop (mkF m 12 #[.val (.ref a1), .val (.int (0 : Int32)), .val (.int (1 : Int32)), .unset, .unset] [(.int (0 : Int32)), (.ref a1)]))
    refine Done.step (ldJ X0 hx hZ e0 A1 (j := (0 : Int32)) (x := (.long v0)) (by decide) rfl (g := (mkF m 12 #[.val (.ref a1), .val (.int (0 : Int32)), .val (.int (1 : Int32)), .unset, .unset] [(.int (0 : Int32)), (.ref a1)])) rfl rfl (hb hby d1_12)) ?_
    show Done p e below s _ _ _ (s₁.setTop (mkF m 13 #[.val (.ref a1), .val (.int (0 : Int32)), .val (.int (1 : Int32)), .unset, .unset] [(.long v0)]))
    refine Done.step (fun t k => XS.lstoreN X0.here hx rfl (hb hby d1_13) rfl (l' := #[.val (.ref a1), .val (.int (0 : Int32)), .val (.int (1 : Int32)), .val (.long v0), .second]) rfl k) ?_
    show Done p e below s _ _ _ (s₁.setTop (mkF m 14 #[.val (.ref a1), .val (.int (0 : Int32)), .val (.int (1 : Int32)), .val (.long v0), .second] []))
    refine Done.step (fun t k => XS.aloadN X0.here hx rfl (hb hby d1_14) rfl rfl k) ?_
    show Done p e below s _ _ _ (s₁.setTop (mkF m 15 #[.val (.ref a1), .val (.int (0 : Int32)), .val (.int (1 : Int32)), .val (.long v0), .second] [(.ref a1)]))
    refine Done.step (fun t k => XS.iloadN X0.here hx rfl (hb hby d1_15) rfl k) ?_
    show Done p e below s _ _ _ (s₁.setTop (mkF m 16 #[.val (.ref a1), .val (.int (0 : Int32)), .val (.int (1 : Int32)), .val (.long v0), .second] [(.int (0 : Int32)), (.ref a1)]))
    refine Done.step (fun t k => XS.aloadN X0.here hx rfl (hb hby d1_16) rfl rfl k) ?_
    show Done p e below s _ _ _ (s₁.setTop (mkF m 17 #[.val (.ref a1), .val (.int (0 : Int32)), .val (.int (1 : Int32)), .val (.long v0), .second] [(.ref a1), (.int (0 : Int32)), (.ref a1)]))
    refine Done.step (fun t k => XS.iloadN X0.here hx rfl (hb hby d1_17) rfl k) ?_
    show Done p e below s _ _ _ (s₁.setTop (mkF m 18 #[.val (.ref a1), .val (.int (0 : Int32)), .val (.int (1 : Int32)), .val (.long v0), .second] [(.int (1 : Int32)), (.ref a1), (.int (0 : Int32)), (.ref a1)]))
    refine Done.step (ldJ X0 hx hZ e0 A1 (j := (1 : Int32)) (x := (.long v1)) (by decide) rfl (g := (mkF m 18 #[.val (.ref a1), .val (.int (0 : Int32)), .val (.int (1 : Int32)), .val (.long v0), .second] [(.int (1 : Int32)), (.ref a1), (.int (0 : Int32)), (.ref a1)])) rfl rfl (hb hby d1_18)) ?_
    show Done p e below s _ _ _ (s₁.setTop (mkF m 19 #[.val (.ref a1), .val (.int (0 : Int32)), .val (.int (1 : Int32)), .val (.long v0), .second] [(.long v1), (.int (0 : Int32)), (.ref a1)]))
    obtain ⟨T101, h101, X101, e101, W101, A101, st101⟩ := stoJ X0 hx hZ e0 A1 (j := (0 : Int32)) (by decide) (i := 0) (by decide) (Nat.le_of_ble_eq_true rfl) (g := (mkF m 19 #[.val (.ref a1), .val (.int (0 : Int32)), .val (.int (1 : Int32)), .val (.long v0), .second] [(.long v1), (.int (0 : Int32)), (.ref a1)])) rfl rfl (hb hby d1_19)
    have f102 : Ax Z h101 a1 .long [(.long v1), (.long v1), (.long v2), (.long v3)] := A101
    have Z101 : n0 ≤ h101.size := Nat.le_trans Z0 (Keep.of_wr W101).1
    have N101 := Fr.snoc X101 N0 g1
    have K101 : Keep h0 h101 [a1] := (Keep.refl h0 [a1]).wr W101 (Or.inl (by simp))
    refine Done.step st101 ?_
    show Done p e below s _ _ _ (T101.setTop (mkF m 20 #[.val (.ref a1), .val (.int (0 : Int32)), .val (.int (1 : Int32)), .val (.long v0), .second] []))
    refine Done.step (fun t k => XS.aloadN X101.here hx rfl (hb hby d1_20) rfl rfl k) ?_
    show Done p e below s _ _ _ (T101.setTop (mkF m 21 #[.val (.ref a1), .val (.int (0 : Int32)), .val (.int (1 : Int32)), .val (.long v0), .second] [(.ref a1)]))
    refine Done.step (fun t k => XS.iloadN X101.here hx rfl (hb hby d1_21) rfl k) ?_
    show Done p e below s _ _ _ (T101.setTop (mkF m 22 #[.val (.ref a1), .val (.int (0 : Int32)), .val (.int (1 : Int32)), .val (.long v0), .second] [(.int (1 : Int32)), (.ref a1)]))
    refine Done.step (fun t k => XS.lloadN X101.here hx rfl (hb hby d1_22) rfl k) ?_
    show Done p e below s _ _ _ (T101.setTop (mkF m 23 #[.val (.ref a1), .val (.int (0 : Int32)), .val (.int (1 : Int32)), .val (.long v0), .second] [(.long v0), (.int (1 : Int32)), (.ref a1)]))
    obtain ⟨T103, h103, X103, e103, W103, A103, st103⟩ := stoJ X101 hx hZ e101 f102 (j := (1 : Int32)) (by decide) (i := 1) (by decide) (Nat.le_of_ble_eq_true rfl) (g := (mkF m 23 #[.val (.ref a1), .val (.int (0 : Int32)), .val (.int (1 : Int32)), .val (.long v0), .second] [(.long v0), (.int (1 : Int32)), (.ref a1)])) rfl rfl (hb hby d1_23)
    have f104 : Ax Z h103 a1 .long [(.long v1), (.long v0), (.long v2), (.long v3)] := A103
    have Z103 : n0 ≤ h103.size := Nat.le_trans Z101 (Keep.of_wr W103).1
    have N103 := Fr.snoc X103 N101 g1
    have K103 : Keep h0 h103 [a1] := K101.wr W103 (Or.inl (by simp))
    refine Done.step st103 ?_
    show Done p e below s _ _ _ (T103.setTop (mkF m 24 #[.val (.ref a1), .val (.int (0 : Int32)), .val (.int (1 : Int32)), .val (.long v0), .second] []))
    exact Done.void X103 hx hlk hret (hb hby d1_24) (by decide) (by decide) ⟨rfl, N103, (by rw [e103]; exact ⟨K103, ⟨v1, v0, f104, Int.le_of_lt (Int64.lt_iff_toInt_lt.mp c1), Or.inr ⟨rfl, rfl⟩⟩⟩)⟩
  · refine Done.step (fun t k => XS.ifYes X0.here hx rfl (pc0 := 7) (pc' := 24) rfl (hb hby d1_7) rfl ((if0 _ _).trans (flt (fun q_ => c1 ((lw_lt _ _).mp q_))).2.1) (by decide) (by decide) k) ?_
    show Done p e below s _ _ _ (s₁.setTop (mkF m 24 #[.val (.ref a1), .val (.int (0 : Int32)), .val (.int (1 : Int32)), .unset, .unset] []))
    exact Done.void X0 hx hlk hret (hb hby d1_24) (by decide) (by decide) ⟨rfl, N0, (by rw [e0]; exact ⟨(Keep.refl h0 [a1]), ⟨v0, v1, A1, Int.not_lt.mp (fun q_ => c1 (Int64.lt_iff_toInt_lt.mpr q_)), Or.inl ⟨rfl, rfl⟩⟩⟩)⟩
def Qrmo23 (Z : State) (a1 : Addr) (p2 : Int32) (p3 : Int32) (v0 v1 v2 v3 : Int64) (h0 : Heap) (n0 : Nat) : Option Value → Heap → List Loc → Prop := fun v h L => v = none ∧ Fr n0 L ∧ Keep h0 h [a1] ∧ ∃ u t : Int64, Ax Z h a1 .long [(.long v0), (.long v1), (.long u), (.long t)] ∧ u.toInt ≤ t.toInt ∧ ((u = v2 ∧ t = v3) ∨ (u = v3 ∧ t = v2))
set_option maxRecDepth 65536 in
set_option maxHeartbeats 40000000 in
theorem rmo23 (l : Launch) (Z : State) (a0 : Array Value) (hw : ∀ d ∈ tables_1, d.before a0 Z = true) (ws : List Jvm.Cond) (a1 : Addr) (p2 : Int32) (p3 : Int32) (v0 v1 v2 v3 : Int64) (h0 : Heap) (n0 : Nat) (Z0 : n0 ≤ h0.size) (A1 : Ax Z h0 a1 .long [(.long v0), (.long v1), (.long v2), (.long v3)]) (g1 : n0 ≤ a1) (hp2 : p2 = (2 : Int32)) (hp3 : p3 = (3 : Int32)) :
    MetFree l (⟨"com/example/upkeep/upkeep/core/PageChangesVersionAtPinLaw", "order", "([JII)V"⟩ : MethodName) (head1 (Jvm.Cond.code (⟨"com/example/upkeep/upkeep/core/PageChangesVersionAtPinLaw", "order", "([JII)V"⟩ : MethodName) method_3_code 5 none :: ws) ({ frames := 0, cells := 0, slots := 0, locals := 0 } : Room)) (fun a U => a = #[(.ref a1), (.int p2), (.int p3)] ∧ Z.Warmed39 U.vm ∧ U.heap = h0) (fun _ _ _ _ _ => True) (fun _ U o U' => ∃ v L, o = .returned v ∧ Qrmo23 Z a1 p2 p3 v0 v1 v2 v3 h0 n0 v U'.heap L ∧ FrameEnd U o U' L ({ frames := 0, cells := 0, slots := 0, locals := 0 } : Room).cells ({ frames := 0, cells := 0, slots := 0, locals := 0 } : Room).slots) := by
  refine MetFree.of_bodySF (plainFor_of_name pn_1) hisR ?_
  intro p e s m args below meth c s₁ Bd hml0 hP hK
  obtain ⟨rfl, hZ, hh⟩ := hP
  have hx := Bd.exec
  have hby := Bd.bytes
  have hml : c.maxLocals = 5 := hml0
  have hown : s.vm.findClass "com/example/upkeep/upkeep/core/PageChangesVersionAtPinLaw" = some m.cls := findClass_of_methodNamed Bd.named
  have hnm := (name_of_methodNamed Bd.named Bd.method).1
  have hlk : meth.locks = false := BodyLoose.notSynchronized Bd
  have hret := Bd.returns
  have X0 : Stand p l e ({ frames := 0, cells := 0, slots := 0, locals := 0 } : Room) s m #[(.ref a1), (.int p2), (.int p3)] below meth c s₁ [] 0 0 := Stand.of_body Bd
  have e0 : s₁.heap = h0 := by rw [← hh, Bd.state]; rfl
  have N0 := Fr.nil n0
  show Done p e below s (Qrmo23 Z a1 p2 p3 v0 v1 v2 v3 h0 n0) ({ frames := 0, cells := 0, slots := 0, locals := 0 } : Room).cells ({ frames := 0, cells := 0, slots := 0, locals := 0 } : Room).slots (s₁.setTop (entryFrame m #[(.ref a1), (.int p2), (.int p3)] 5))
  refine Done.step (fun t k => castTop (ef_1 m a1 p2 p3) k) ?_
  subst hp2 hp3
  show Done p e below s _ _ _ (s₁.setTop (mkF m 0 #[.val (.ref a1), .val (.int (2 : Int32)), .val (.int (3 : Int32)), .unset, .unset] []))
  refine Done.step (fun t k => XS.aloadN X0.here hx rfl (hb hby d1_0) rfl rfl k) ?_
  show Done p e below s _ _ _ (s₁.setTop (mkF m 1 #[.val (.ref a1), .val (.int (2 : Int32)), .val (.int (3 : Int32)), .unset, .unset] [(.ref a1)]))
  refine Done.step (fun t k => XS.iloadN X0.here hx rfl (hb hby d1_1) rfl k) ?_
  show Done p e below s _ _ _ (s₁.setTop (mkF m 2 #[.val (.ref a1), .val (.int (2 : Int32)), .val (.int (3 : Int32)), .unset, .unset] [(.int (3 : Int32)), (.ref a1)]))
  refine Done.step (ldJ X0 hx hZ e0 A1 (j := (3 : Int32)) (x := (.long v3)) (by decide) rfl (g := (mkF m 2 #[.val (.ref a1), .val (.int (2 : Int32)), .val (.int (3 : Int32)), .unset, .unset] [(.int (3 : Int32)), (.ref a1)])) rfl rfl (hb hby d1_2)) ?_
  show Done p e below s _ _ _ (s₁.setTop (mkF m 3 #[.val (.ref a1), .val (.int (2 : Int32)), .val (.int (3 : Int32)), .unset, .unset] [(.long v3)]))
  refine Done.step (fun t k => XS.aloadN X0.here hx rfl (hb hby d1_3) rfl rfl k) ?_
  show Done p e below s _ _ _ (s₁.setTop (mkF m 4 #[.val (.ref a1), .val (.int (2 : Int32)), .val (.int (3 : Int32)), .unset, .unset] [(.ref a1), (.long v3)]))
  refine Done.step (fun t k => XS.iloadN X0.here hx rfl (hb hby d1_4) rfl k) ?_
  show Done p e below s _ _ _ (s₁.setTop (mkF m 5 #[.val (.ref a1), .val (.int (2 : Int32)), .val (.int (3 : Int32)), .unset, .unset] [(.int (2 : Int32)), (.ref a1), (.long v3)]))
  refine Done.step (ldJ X0 hx hZ e0 A1 (j := (2 : Int32)) (x := (.long v2)) (by decide) rfl (g := (mkF m 5 #[.val (.ref a1), .val (.int (2 : Int32)), .val (.int (3 : Int32)), .unset, .unset] [(.int (2 : Int32)), (.ref a1), (.long v3)])) rfl rfl (hb hby d1_5)) ?_
  show Done p e below s _ _ _ (s₁.setTop (mkF m 6 #[.val (.ref a1), .val (.int (2 : Int32)), .val (.int (3 : Int32)), .unset, .unset] [(.long v2), (.long v3)]))
  refine Done.step (fun t k => XS.lcmp X0.here hx rfl (hb hby d1_6) rfl k) ?_
  show Done p e below s _ _ _ (s₁.setTop (mkF m 7 #[.val (.ref a1), .val (.int (2 : Int32)), .val (.int (3 : Int32)), .unset, .unset] [(.int (lcmpW v3 v2))]))
  by_cases c1 : v3 < v2
  · refine Done.step (fun t k => XS.ifNo X0.here hx rfl (hb hby d1_7) rfl ((if0 _ _).trans (tlt ((lw_lt _ _).mpr c1)).2.1) k) ?_
    show Done p e below s _ _ _ (s₁.setTop (mkF m 10 #[.val (.ref a1), .val (.int (2 : Int32)), .val (.int (3 : Int32)), .unset, .unset] []))
    refine Done.step (fun t k => XS.aloadN X0.here hx rfl (hb hby d1_10) rfl rfl k) ?_
    show Done p e below s _ _ _ (s₁.setTop (mkF m 11 #[.val (.ref a1), .val (.int (2 : Int32)), .val (.int (3 : Int32)), .unset, .unset] [(.ref a1)]))
    refine Done.step (fun t k => XS.iloadN X0.here hx rfl (hb hby d1_11) rfl k) ?_
    show Done p e below s _ _ _ (s₁.setTop (mkF m 12 #[.val (.ref a1), .val (.int (2 : Int32)), .val (.int (3 : Int32)), .unset, .unset] [(.int (2 : Int32)), (.ref a1)]))
    refine Done.step (ldJ X0 hx hZ e0 A1 (j := (2 : Int32)) (x := (.long v2)) (by decide) rfl (g := (mkF m 12 #[.val (.ref a1), .val (.int (2 : Int32)), .val (.int (3 : Int32)), .unset, .unset] [(.int (2 : Int32)), (.ref a1)])) rfl rfl (hb hby d1_12)) ?_
    show Done p e below s _ _ _ (s₁.setTop (mkF m 13 #[.val (.ref a1), .val (.int (2 : Int32)), .val (.int (3 : Int32)), .unset, .unset] [(.long v2)]))
    refine Done.step (fun t k => XS.lstoreN X0.here hx rfl (hb hby d1_13) rfl (l' := #[.val (.ref a1), .val (.int (2 : Int32)), .val (.int (3 : Int32)), .val (.long v2), .second]) rfl k) ?_
    show Done p e below s _ _ _ (s₁.setTop (mkF m 14 #[.val (.ref a1), .val (.int (2 : Int32)), .val (.int (3 : Int32)), .val (.long v2), .second] []))
    refine Done.step (fun t k => XS.aloadN X0.here hx rfl (hb hby d1_14) rfl rfl k) ?_
    show Done p e below s _ _ _ (s₁.setTop (mkF m 15 #[.val (.ref a1), .val (.int (2 : Int32)), .val (.int (3 : Int32)), .val (.long v2), .second] [(.ref a1)]))
    refine Done.step (fun t k => XS.iloadN X0.here hx rfl (hb hby d1_15) rfl k) ?_
    show Done p e below s _ _ _ (s₁.setTop (mkF m 16 #[.val (.ref a1), .val (.int (2 : Int32)), .val (.int (3 : Int32)), .val (.long v2), .second] [(.int (2 : Int32)), (.ref a1)]))
    refine Done.step (fun t k => XS.aloadN X0.here hx rfl (hb hby d1_16) rfl rfl k) ?_
    show Done p e below s _ _ _ (s₁.setTop (mkF m 17 #[.val (.ref a1), .val (.int (2 : Int32)), .val (.int (3 : Int32)), .val (.long v2), .second] [(.ref a1), (.int (2 : Int32)), (.ref a1)]))
    refine Done.step (fun t k => XS.iloadN X0.here hx rfl (hb hby d1_17) rfl k) ?_
    show Done p e below s _ _ _ (s₁.setTop (mkF m 18 #[.val (.ref a1), .val (.int (2 : Int32)), .val (.int (3 : Int32)), .val (.long v2), .second] [(.int (3 : Int32)), (.ref a1), (.int (2 : Int32)), (.ref a1)]))
    refine Done.step (ldJ X0 hx hZ e0 A1 (j := (3 : Int32)) (x := (.long v3)) (by decide) rfl (g := (mkF m 18 #[.val (.ref a1), .val (.int (2 : Int32)), .val (.int (3 : Int32)), .val (.long v2), .second] [(.int (3 : Int32)), (.ref a1), (.int (2 : Int32)), (.ref a1)])) rfl rfl (hb hby d1_18)) ?_
    show Done p e below s _ _ _ (s₁.setTop (mkF m 19 #[.val (.ref a1), .val (.int (2 : Int32)), .val (.int (3 : Int32)), .val (.long v2), .second] [(.long v3), (.int (2 : Int32)), (.ref a1)]))
    obtain ⟨T101, h101, X101, e101, W101, A101, st101⟩ := stoJ X0 hx hZ e0 A1 (j := (2 : Int32)) (by decide) (i := 2) (by decide) (Nat.le_of_ble_eq_true rfl) (g := (mkF m 19 #[.val (.ref a1), .val (.int (2 : Int32)), .val (.int (3 : Int32)), .val (.long v2), .second] [(.long v3), (.int (2 : Int32)), (.ref a1)])) rfl rfl (hb hby d1_19)
    have f102 : Ax Z h101 a1 .long [(.long v0), (.long v1), (.long v3), (.long v3)] := A101
    have Z101 : n0 ≤ h101.size := Nat.le_trans Z0 (Keep.of_wr W101).1
    have N101 := Fr.snoc X101 N0 g1
    have K101 : Keep h0 h101 [a1] := (Keep.refl h0 [a1]).wr W101 (Or.inl (by simp))
    refine Done.step st101 ?_
    show Done p e below s _ _ _ (T101.setTop (mkF m 20 #[.val (.ref a1), .val (.int (2 : Int32)), .val (.int (3 : Int32)), .val (.long v2), .second] []))
    refine Done.step (fun t k => XS.aloadN X101.here hx rfl (hb hby d1_20) rfl rfl k) ?_
    show Done p e below s _ _ _ (T101.setTop (mkF m 21 #[.val (.ref a1), .val (.int (2 : Int32)), .val (.int (3 : Int32)), .val (.long v2), .second] [(.ref a1)]))
    refine Done.step (fun t k => XS.iloadN X101.here hx rfl (hb hby d1_21) rfl k) ?_
    show Done p e below s _ _ _ (T101.setTop (mkF m 22 #[.val (.ref a1), .val (.int (2 : Int32)), .val (.int (3 : Int32)), .val (.long v2), .second] [(.int (3 : Int32)), (.ref a1)]))
    refine Done.step (fun t k => XS.lloadN X101.here hx rfl (hb hby d1_22) rfl k) ?_
    show Done p e below s _ _ _ (T101.setTop (mkF m 23 #[.val (.ref a1), .val (.int (2 : Int32)), .val (.int (3 : Int32)), .val (.long v2), .second] [(.long v2), (.int (3 : Int32)), (.ref a1)]))
    obtain ⟨T103, h103, X103, e103, W103, A103, st103⟩ := stoJ X101 hx hZ e101 f102 (j := (3 : Int32)) (by decide) (i := 3) (by decide) (Nat.le_of_ble_eq_true rfl) (g := (mkF m 23 #[.val (.ref a1), .val (.int (2 : Int32)), .val (.int (3 : Int32)), .val (.long v2), .second] [(.long v2), (.int (3 : Int32)), (.ref a1)])) rfl rfl (hb hby d1_23)
    have f104 : Ax Z h103 a1 .long [(.long v0), (.long v1), (.long v3), (.long v2)] := A103
    have Z103 : n0 ≤ h103.size := Nat.le_trans Z101 (Keep.of_wr W103).1
    have N103 := Fr.snoc X103 N101 g1
    have K103 : Keep h0 h103 [a1] := K101.wr W103 (Or.inl (by simp))
    refine Done.step st103 ?_
    show Done p e below s _ _ _ (T103.setTop (mkF m 24 #[.val (.ref a1), .val (.int (2 : Int32)), .val (.int (3 : Int32)), .val (.long v2), .second] []))
    exact Done.void X103 hx hlk hret (hb hby d1_24) (by decide) (by decide) ⟨rfl, N103, (by rw [e103]; exact ⟨K103, ⟨v3, v2, f104, Int.le_of_lt (Int64.lt_iff_toInt_lt.mp c1), Or.inr ⟨rfl, rfl⟩⟩⟩)⟩
  · refine Done.step (fun t k => XS.ifYes X0.here hx rfl (pc0 := 7) (pc' := 24) rfl (hb hby d1_7) rfl ((if0 _ _).trans (flt (fun q_ => c1 ((lw_lt _ _).mp q_))).2.1) (by decide) (by decide) k) ?_
    show Done p e below s _ _ _ (s₁.setTop (mkF m 24 #[.val (.ref a1), .val (.int (2 : Int32)), .val (.int (3 : Int32)), .unset, .unset] []))
    exact Done.void X0 hx hlk hret (hb hby d1_24) (by decide) (by decide) ⟨rfl, N0, (by rw [e0]; exact ⟨(Keep.refl h0 [a1]), ⟨v2, v3, A1, Int.not_lt.mp (fun q_ => c1 (Int64.lt_iff_toInt_lt.mpr q_)), Or.inl ⟨rfl, rfl⟩⟩⟩)⟩
def Qrmo02 (Z : State) (a1 : Addr) (p2 : Int32) (p3 : Int32) (v0 v1 v2 v3 : Int64) (h0 : Heap) (n0 : Nat) : Option Value → Heap → List Loc → Prop := fun v h L => v = none ∧ Fr n0 L ∧ Keep h0 h [a1] ∧ ∃ u t : Int64, Ax Z h a1 .long [(.long u), (.long v1), (.long t), (.long v3)] ∧ u.toInt ≤ t.toInt ∧ ((u = v0 ∧ t = v2) ∨ (u = v2 ∧ t = v0))
set_option maxRecDepth 65536 in
set_option maxHeartbeats 40000000 in
theorem rmo02 (l : Launch) (Z : State) (a0 : Array Value) (hw : ∀ d ∈ tables_1, d.before a0 Z = true) (ws : List Jvm.Cond) (a1 : Addr) (p2 : Int32) (p3 : Int32) (v0 v1 v2 v3 : Int64) (h0 : Heap) (n0 : Nat) (Z0 : n0 ≤ h0.size) (A1 : Ax Z h0 a1 .long [(.long v0), (.long v1), (.long v2), (.long v3)]) (g1 : n0 ≤ a1) (hp2 : p2 = (0 : Int32)) (hp3 : p3 = (2 : Int32)) :
    MetFree l (⟨"com/example/upkeep/upkeep/core/PageChangesVersionAtPinLaw", "order", "([JII)V"⟩ : MethodName) (head1 (Jvm.Cond.code (⟨"com/example/upkeep/upkeep/core/PageChangesVersionAtPinLaw", "order", "([JII)V"⟩ : MethodName) method_3_code 5 none :: ws) ({ frames := 0, cells := 0, slots := 0, locals := 0 } : Room)) (fun a U => a = #[(.ref a1), (.int p2), (.int p3)] ∧ Z.Warmed39 U.vm ∧ U.heap = h0) (fun _ _ _ _ _ => True) (fun _ U o U' => ∃ v L, o = .returned v ∧ Qrmo02 Z a1 p2 p3 v0 v1 v2 v3 h0 n0 v U'.heap L ∧ FrameEnd U o U' L ({ frames := 0, cells := 0, slots := 0, locals := 0 } : Room).cells ({ frames := 0, cells := 0, slots := 0, locals := 0 } : Room).slots) := by
  refine MetFree.of_bodySF (plainFor_of_name pn_1) hisR ?_
  intro p e s m args below meth c s₁ Bd hml0 hP hK
  obtain ⟨rfl, hZ, hh⟩ := hP
  have hx := Bd.exec
  have hby := Bd.bytes
  have hml : c.maxLocals = 5 := hml0
  have hown : s.vm.findClass "com/example/upkeep/upkeep/core/PageChangesVersionAtPinLaw" = some m.cls := findClass_of_methodNamed Bd.named
  have hnm := (name_of_methodNamed Bd.named Bd.method).1
  have hlk : meth.locks = false := BodyLoose.notSynchronized Bd
  have hret := Bd.returns
  have X0 : Stand p l e ({ frames := 0, cells := 0, slots := 0, locals := 0 } : Room) s m #[(.ref a1), (.int p2), (.int p3)] below meth c s₁ [] 0 0 := Stand.of_body Bd
  have e0 : s₁.heap = h0 := by rw [← hh, Bd.state]; rfl
  have N0 := Fr.nil n0
  show Done p e below s (Qrmo02 Z a1 p2 p3 v0 v1 v2 v3 h0 n0) ({ frames := 0, cells := 0, slots := 0, locals := 0 } : Room).cells ({ frames := 0, cells := 0, slots := 0, locals := 0 } : Room).slots (s₁.setTop (entryFrame m #[(.ref a1), (.int p2), (.int p3)] 5))
  refine Done.step (fun t k => castTop (ef_1 m a1 p2 p3) k) ?_
  subst hp2 hp3
  show Done p e below s _ _ _ (s₁.setTop (mkF m 0 #[.val (.ref a1), .val (.int (0 : Int32)), .val (.int (2 : Int32)), .unset, .unset] []))
  refine Done.step (fun t k => XS.aloadN X0.here hx rfl (hb hby d1_0) rfl rfl k) ?_
  show Done p e below s _ _ _ (s₁.setTop (mkF m 1 #[.val (.ref a1), .val (.int (0 : Int32)), .val (.int (2 : Int32)), .unset, .unset] [(.ref a1)]))
  refine Done.step (fun t k => XS.iloadN X0.here hx rfl (hb hby d1_1) rfl k) ?_
  show Done p e below s _ _ _ (s₁.setTop (mkF m 2 #[.val (.ref a1), .val (.int (0 : Int32)), .val (.int (2 : Int32)), .unset, .unset] [(.int (2 : Int32)), (.ref a1)]))
  refine Done.step (ldJ X0 hx hZ e0 A1 (j := (2 : Int32)) (x := (.long v2)) (by decide) rfl (g := (mkF m 2 #[.val (.ref a1), .val (.int (0 : Int32)), .val (.int (2 : Int32)), .unset, .unset] [(.int (2 : Int32)), (.ref a1)])) rfl rfl (hb hby d1_2)) ?_
  show Done p e below s _ _ _ (s₁.setTop (mkF m 3 #[.val (.ref a1), .val (.int (0 : Int32)), .val (.int (2 : Int32)), .unset, .unset] [(.long v2)]))
  refine Done.step (fun t k => XS.aloadN X0.here hx rfl (hb hby d1_3) rfl rfl k) ?_
  show Done p e below s _ _ _ (s₁.setTop (mkF m 4 #[.val (.ref a1), .val (.int (0 : Int32)), .val (.int (2 : Int32)), .unset, .unset] [(.ref a1), (.long v2)]))
  refine Done.step (fun t k => XS.iloadN X0.here hx rfl (hb hby d1_4) rfl k) ?_
  show Done p e below s _ _ _ (s₁.setTop (mkF m 5 #[.val (.ref a1), .val (.int (0 : Int32)), .val (.int (2 : Int32)), .unset, .unset] [(.int (0 : Int32)), (.ref a1), (.long v2)]))
  refine Done.step (ldJ X0 hx hZ e0 A1 (j := (0 : Int32)) (x := (.long v0)) (by decide) rfl (g := (mkF m 5 #[.val (.ref a1), .val (.int (0 : Int32)), .val (.int (2 : Int32)), .unset, .unset] [(.int (0 : Int32)), (.ref a1), (.long v2)])) rfl rfl (hb hby d1_5)) ?_
  show Done p e below s _ _ _ (s₁.setTop (mkF m 6 #[.val (.ref a1), .val (.int (0 : Int32)), .val (.int (2 : Int32)), .unset, .unset] [(.long v0), (.long v2)]))
  refine Done.step (fun t k => XS.lcmp X0.here hx rfl (hb hby d1_6) rfl k) ?_
  show Done p e below s _ _ _ (s₁.setTop (mkF m 7 #[.val (.ref a1), .val (.int (0 : Int32)), .val (.int (2 : Int32)), .unset, .unset] [(.int (lcmpW v2 v0))]))
  by_cases c1 : v2 < v0
  · refine Done.step (fun t k => XS.ifNo X0.here hx rfl (hb hby d1_7) rfl ((if0 _ _).trans (tlt ((lw_lt _ _).mpr c1)).2.1) k) ?_
    show Done p e below s _ _ _ (s₁.setTop (mkF m 10 #[.val (.ref a1), .val (.int (0 : Int32)), .val (.int (2 : Int32)), .unset, .unset] []))
    refine Done.step (fun t k => XS.aloadN X0.here hx rfl (hb hby d1_10) rfl rfl k) ?_
    show Done p e below s _ _ _ (s₁.setTop (mkF m 11 #[.val (.ref a1), .val (.int (0 : Int32)), .val (.int (2 : Int32)), .unset, .unset] [(.ref a1)]))
    refine Done.step (fun t k => XS.iloadN X0.here hx rfl (hb hby d1_11) rfl k) ?_
    show Done p e below s _ _ _ (s₁.setTop (mkF m 12 #[.val (.ref a1), .val (.int (0 : Int32)), .val (.int (2 : Int32)), .unset, .unset] [(.int (0 : Int32)), (.ref a1)]))
    refine Done.step (ldJ X0 hx hZ e0 A1 (j := (0 : Int32)) (x := (.long v0)) (by decide) rfl (g := (mkF m 12 #[.val (.ref a1), .val (.int (0 : Int32)), .val (.int (2 : Int32)), .unset, .unset] [(.int (0 : Int32)), (.ref a1)])) rfl rfl (hb hby d1_12)) ?_
    show Done p e below s _ _ _ (s₁.setTop (mkF m 13 #[.val (.ref a1), .val (.int (0 : Int32)), .val (.int (2 : Int32)), .unset, .unset] [(.long v0)]))
    refine Done.step (fun t k => XS.lstoreN X0.here hx rfl (hb hby d1_13) rfl (l' := #[.val (.ref a1), .val (.int (0 : Int32)), .val (.int (2 : Int32)), .val (.long v0), .second]) rfl k) ?_
    show Done p e below s _ _ _ (s₁.setTop (mkF m 14 #[.val (.ref a1), .val (.int (0 : Int32)), .val (.int (2 : Int32)), .val (.long v0), .second] []))
    refine Done.step (fun t k => XS.aloadN X0.here hx rfl (hb hby d1_14) rfl rfl k) ?_
    show Done p e below s _ _ _ (s₁.setTop (mkF m 15 #[.val (.ref a1), .val (.int (0 : Int32)), .val (.int (2 : Int32)), .val (.long v0), .second] [(.ref a1)]))
    refine Done.step (fun t k => XS.iloadN X0.here hx rfl (hb hby d1_15) rfl k) ?_
    show Done p e below s _ _ _ (s₁.setTop (mkF m 16 #[.val (.ref a1), .val (.int (0 : Int32)), .val (.int (2 : Int32)), .val (.long v0), .second] [(.int (0 : Int32)), (.ref a1)]))
    refine Done.step (fun t k => XS.aloadN X0.here hx rfl (hb hby d1_16) rfl rfl k) ?_
    show Done p e below s _ _ _ (s₁.setTop (mkF m 17 #[.val (.ref a1), .val (.int (0 : Int32)), .val (.int (2 : Int32)), .val (.long v0), .second] [(.ref a1), (.int (0 : Int32)), (.ref a1)]))
    refine Done.step (fun t k => XS.iloadN X0.here hx rfl (hb hby d1_17) rfl k) ?_
    show Done p e below s _ _ _ (s₁.setTop (mkF m 18 #[.val (.ref a1), .val (.int (0 : Int32)), .val (.int (2 : Int32)), .val (.long v0), .second] [(.int (2 : Int32)), (.ref a1), (.int (0 : Int32)), (.ref a1)]))
    refine Done.step (ldJ X0 hx hZ e0 A1 (j := (2 : Int32)) (x := (.long v2)) (by decide) rfl (g := (mkF m 18 #[.val (.ref a1), .val (.int (0 : Int32)), .val (.int (2 : Int32)), .val (.long v0), .second] [(.int (2 : Int32)), (.ref a1), (.int (0 : Int32)), (.ref a1)])) rfl rfl (hb hby d1_18)) ?_
    show Done p e below s _ _ _ (s₁.setTop (mkF m 19 #[.val (.ref a1), .val (.int (0 : Int32)), .val (.int (2 : Int32)), .val (.long v0), .second] [(.long v2), (.int (0 : Int32)), (.ref a1)]))
    obtain ⟨T101, h101, X101, e101, W101, A101, st101⟩ := stoJ X0 hx hZ e0 A1 (j := (0 : Int32)) (by decide) (i := 0) (by decide) (Nat.le_of_ble_eq_true rfl) (g := (mkF m 19 #[.val (.ref a1), .val (.int (0 : Int32)), .val (.int (2 : Int32)), .val (.long v0), .second] [(.long v2), (.int (0 : Int32)), (.ref a1)])) rfl rfl (hb hby d1_19)
    have f102 : Ax Z h101 a1 .long [(.long v2), (.long v1), (.long v2), (.long v3)] := A101
    have Z101 : n0 ≤ h101.size := Nat.le_trans Z0 (Keep.of_wr W101).1
    have N101 := Fr.snoc X101 N0 g1
    have K101 : Keep h0 h101 [a1] := (Keep.refl h0 [a1]).wr W101 (Or.inl (by simp))
    refine Done.step st101 ?_
    show Done p e below s _ _ _ (T101.setTop (mkF m 20 #[.val (.ref a1), .val (.int (0 : Int32)), .val (.int (2 : Int32)), .val (.long v0), .second] []))
    refine Done.step (fun t k => XS.aloadN X101.here hx rfl (hb hby d1_20) rfl rfl k) ?_
    show Done p e below s _ _ _ (T101.setTop (mkF m 21 #[.val (.ref a1), .val (.int (0 : Int32)), .val (.int (2 : Int32)), .val (.long v0), .second] [(.ref a1)]))
    refine Done.step (fun t k => XS.iloadN X101.here hx rfl (hb hby d1_21) rfl k) ?_
    show Done p e below s _ _ _ (T101.setTop (mkF m 22 #[.val (.ref a1), .val (.int (0 : Int32)), .val (.int (2 : Int32)), .val (.long v0), .second] [(.int (2 : Int32)), (.ref a1)]))
    refine Done.step (fun t k => XS.lloadN X101.here hx rfl (hb hby d1_22) rfl k) ?_
    show Done p e below s _ _ _ (T101.setTop (mkF m 23 #[.val (.ref a1), .val (.int (0 : Int32)), .val (.int (2 : Int32)), .val (.long v0), .second] [(.long v0), (.int (2 : Int32)), (.ref a1)]))
    obtain ⟨T103, h103, X103, e103, W103, A103, st103⟩ := stoJ X101 hx hZ e101 f102 (j := (2 : Int32)) (by decide) (i := 2) (by decide) (Nat.le_of_ble_eq_true rfl) (g := (mkF m 23 #[.val (.ref a1), .val (.int (0 : Int32)), .val (.int (2 : Int32)), .val (.long v0), .second] [(.long v0), (.int (2 : Int32)), (.ref a1)])) rfl rfl (hb hby d1_23)
    have f104 : Ax Z h103 a1 .long [(.long v2), (.long v1), (.long v0), (.long v3)] := A103
    have Z103 : n0 ≤ h103.size := Nat.le_trans Z101 (Keep.of_wr W103).1
    have N103 := Fr.snoc X103 N101 g1
    have K103 : Keep h0 h103 [a1] := K101.wr W103 (Or.inl (by simp))
    refine Done.step st103 ?_
    show Done p e below s _ _ _ (T103.setTop (mkF m 24 #[.val (.ref a1), .val (.int (0 : Int32)), .val (.int (2 : Int32)), .val (.long v0), .second] []))
    exact Done.void X103 hx hlk hret (hb hby d1_24) (by decide) (by decide) ⟨rfl, N103, (by rw [e103]; exact ⟨K103, ⟨v2, v0, f104, Int.le_of_lt (Int64.lt_iff_toInt_lt.mp c1), Or.inr ⟨rfl, rfl⟩⟩⟩)⟩
  · refine Done.step (fun t k => XS.ifYes X0.here hx rfl (pc0 := 7) (pc' := 24) rfl (hb hby d1_7) rfl ((if0 _ _).trans (flt (fun q_ => c1 ((lw_lt _ _).mp q_))).2.1) (by decide) (by decide) k) ?_
    show Done p e below s _ _ _ (s₁.setTop (mkF m 24 #[.val (.ref a1), .val (.int (0 : Int32)), .val (.int (2 : Int32)), .unset, .unset] []))
    exact Done.void X0 hx hlk hret (hb hby d1_24) (by decide) (by decide) ⟨rfl, N0, (by rw [e0]; exact ⟨(Keep.refl h0 [a1]), ⟨v0, v2, A1, Int.not_lt.mp (fun q_ => c1 (Int64.lt_iff_toInt_lt.mpr q_)), Or.inl ⟨rfl, rfl⟩⟩⟩)⟩
def Qrmo13 (Z : State) (a1 : Addr) (p2 : Int32) (p3 : Int32) (v0 v1 v2 v3 : Int64) (h0 : Heap) (n0 : Nat) : Option Value → Heap → List Loc → Prop := fun v h L => v = none ∧ Fr n0 L ∧ Keep h0 h [a1] ∧ ∃ u t : Int64, Ax Z h a1 .long [(.long v0), (.long u), (.long v2), (.long t)] ∧ u.toInt ≤ t.toInt ∧ ((u = v1 ∧ t = v3) ∨ (u = v3 ∧ t = v1))
set_option maxRecDepth 65536 in
set_option maxHeartbeats 40000000 in
theorem rmo13 (l : Launch) (Z : State) (a0 : Array Value) (hw : ∀ d ∈ tables_1, d.before a0 Z = true) (ws : List Jvm.Cond) (a1 : Addr) (p2 : Int32) (p3 : Int32) (v0 v1 v2 v3 : Int64) (h0 : Heap) (n0 : Nat) (Z0 : n0 ≤ h0.size) (A1 : Ax Z h0 a1 .long [(.long v0), (.long v1), (.long v2), (.long v3)]) (g1 : n0 ≤ a1) (hp2 : p2 = (1 : Int32)) (hp3 : p3 = (3 : Int32)) :
    MetFree l (⟨"com/example/upkeep/upkeep/core/PageChangesVersionAtPinLaw", "order", "([JII)V"⟩ : MethodName) (head1 (Jvm.Cond.code (⟨"com/example/upkeep/upkeep/core/PageChangesVersionAtPinLaw", "order", "([JII)V"⟩ : MethodName) method_3_code 5 none :: ws) ({ frames := 0, cells := 0, slots := 0, locals := 0 } : Room)) (fun a U => a = #[(.ref a1), (.int p2), (.int p3)] ∧ Z.Warmed39 U.vm ∧ U.heap = h0) (fun _ _ _ _ _ => True) (fun _ U o U' => ∃ v L, o = .returned v ∧ Qrmo13 Z a1 p2 p3 v0 v1 v2 v3 h0 n0 v U'.heap L ∧ FrameEnd U o U' L ({ frames := 0, cells := 0, slots := 0, locals := 0 } : Room).cells ({ frames := 0, cells := 0, slots := 0, locals := 0 } : Room).slots) := by
  refine MetFree.of_bodySF (plainFor_of_name pn_1) hisR ?_
  intro p e s m args below meth c s₁ Bd hml0 hP hK
  obtain ⟨rfl, hZ, hh⟩ := hP
  have hx := Bd.exec
  have hby := Bd.bytes
  have hml : c.maxLocals = 5 := hml0
  have hown : s.vm.findClass "com/example/upkeep/upkeep/core/PageChangesVersionAtPinLaw" = some m.cls := findClass_of_methodNamed Bd.named
  have hnm := (name_of_methodNamed Bd.named Bd.method).1
  have hlk : meth.locks = false := BodyLoose.notSynchronized Bd
  have hret := Bd.returns
  have X0 : Stand p l e ({ frames := 0, cells := 0, slots := 0, locals := 0 } : Room) s m #[(.ref a1), (.int p2), (.int p3)] below meth c s₁ [] 0 0 := Stand.of_body Bd
  have e0 : s₁.heap = h0 := by rw [← hh, Bd.state]; rfl
  have N0 := Fr.nil n0
  show Done p e below s (Qrmo13 Z a1 p2 p3 v0 v1 v2 v3 h0 n0) ({ frames := 0, cells := 0, slots := 0, locals := 0 } : Room).cells ({ frames := 0, cells := 0, slots := 0, locals := 0 } : Room).slots (s₁.setTop (entryFrame m #[(.ref a1), (.int p2), (.int p3)] 5))
  refine Done.step (fun t k => castTop (ef_1 m a1 p2 p3) k) ?_
  subst hp2 hp3
  show Done p e below s _ _ _ (s₁.setTop (mkF m 0 #[.val (.ref a1), .val (.int (1 : Int32)), .val (.int (3 : Int32)), .unset, .unset] []))
  refine Done.step (fun t k => XS.aloadN X0.here hx rfl (hb hby d1_0) rfl rfl k) ?_
  show Done p e below s _ _ _ (s₁.setTop (mkF m 1 #[.val (.ref a1), .val (.int (1 : Int32)), .val (.int (3 : Int32)), .unset, .unset] [(.ref a1)]))
  refine Done.step (fun t k => XS.iloadN X0.here hx rfl (hb hby d1_1) rfl k) ?_
  show Done p e below s _ _ _ (s₁.setTop (mkF m 2 #[.val (.ref a1), .val (.int (1 : Int32)), .val (.int (3 : Int32)), .unset, .unset] [(.int (3 : Int32)), (.ref a1)]))
  refine Done.step (ldJ X0 hx hZ e0 A1 (j := (3 : Int32)) (x := (.long v3)) (by decide) rfl (g := (mkF m 2 #[.val (.ref a1), .val (.int (1 : Int32)), .val (.int (3 : Int32)), .unset, .unset] [(.int (3 : Int32)), (.ref a1)])) rfl rfl (hb hby d1_2)) ?_
  show Done p e below s _ _ _ (s₁.setTop (mkF m 3 #[.val (.ref a1), .val (.int (1 : Int32)), .val (.int (3 : Int32)), .unset, .unset] [(.long v3)]))
  refine Done.step (fun t k => XS.aloadN X0.here hx rfl (hb hby d1_3) rfl rfl k) ?_
  show Done p e below s _ _ _ (s₁.setTop (mkF m 4 #[.val (.ref a1), .val (.int (1 : Int32)), .val (.int (3 : Int32)), .unset, .unset] [(.ref a1), (.long v3)]))
  refine Done.step (fun t k => XS.iloadN X0.here hx rfl (hb hby d1_4) rfl k) ?_
  show Done p e below s _ _ _ (s₁.setTop (mkF m 5 #[.val (.ref a1), .val (.int (1 : Int32)), .val (.int (3 : Int32)), .unset, .unset] [(.int (1 : Int32)), (.ref a1), (.long v3)]))
  refine Done.step (ldJ X0 hx hZ e0 A1 (j := (1 : Int32)) (x := (.long v1)) (by decide) rfl (g := (mkF m 5 #[.val (.ref a1), .val (.int (1 : Int32)), .val (.int (3 : Int32)), .unset, .unset] [(.int (1 : Int32)), (.ref a1), (.long v3)])) rfl rfl (hb hby d1_5)) ?_
  show Done p e below s _ _ _ (s₁.setTop (mkF m 6 #[.val (.ref a1), .val (.int (1 : Int32)), .val (.int (3 : Int32)), .unset, .unset] [(.long v1), (.long v3)]))
  refine Done.step (fun t k => XS.lcmp X0.here hx rfl (hb hby d1_6) rfl k) ?_
  show Done p e below s _ _ _ (s₁.setTop (mkF m 7 #[.val (.ref a1), .val (.int (1 : Int32)), .val (.int (3 : Int32)), .unset, .unset] [(.int (lcmpW v3 v1))]))
  by_cases c1 : v3 < v1
  · refine Done.step (fun t k => XS.ifNo X0.here hx rfl (hb hby d1_7) rfl ((if0 _ _).trans (tlt ((lw_lt _ _).mpr c1)).2.1) k) ?_
    show Done p e below s _ _ _ (s₁.setTop (mkF m 10 #[.val (.ref a1), .val (.int (1 : Int32)), .val (.int (3 : Int32)), .unset, .unset] []))
    refine Done.step (fun t k => XS.aloadN X0.here hx rfl (hb hby d1_10) rfl rfl k) ?_
    show Done p e below s _ _ _ (s₁.setTop (mkF m 11 #[.val (.ref a1), .val (.int (1 : Int32)), .val (.int (3 : Int32)), .unset, .unset] [(.ref a1)]))
    refine Done.step (fun t k => XS.iloadN X0.here hx rfl (hb hby d1_11) rfl k) ?_
    show Done p e below s _ _ _ (s₁.setTop (mkF m 12 #[.val (.ref a1), .val (.int (1 : Int32)), .val (.int (3 : Int32)), .unset, .unset] [(.int (1 : Int32)), (.ref a1)]))
    refine Done.step (ldJ X0 hx hZ e0 A1 (j := (1 : Int32)) (x := (.long v1)) (by decide) rfl (g := (mkF m 12 #[.val (.ref a1), .val (.int (1 : Int32)), .val (.int (3 : Int32)), .unset, .unset] [(.int (1 : Int32)), (.ref a1)])) rfl rfl (hb hby d1_12)) ?_
    show Done p e below s _ _ _ (s₁.setTop (mkF m 13 #[.val (.ref a1), .val (.int (1 : Int32)), .val (.int (3 : Int32)), .unset, .unset] [(.long v1)]))
    refine Done.step (fun t k => XS.lstoreN X0.here hx rfl (hb hby d1_13) rfl (l' := #[.val (.ref a1), .val (.int (1 : Int32)), .val (.int (3 : Int32)), .val (.long v1), .second]) rfl k) ?_
    show Done p e below s _ _ _ (s₁.setTop (mkF m 14 #[.val (.ref a1), .val (.int (1 : Int32)), .val (.int (3 : Int32)), .val (.long v1), .second] []))
    refine Done.step (fun t k => XS.aloadN X0.here hx rfl (hb hby d1_14) rfl rfl k) ?_
    show Done p e below s _ _ _ (s₁.setTop (mkF m 15 #[.val (.ref a1), .val (.int (1 : Int32)), .val (.int (3 : Int32)), .val (.long v1), .second] [(.ref a1)]))
    refine Done.step (fun t k => XS.iloadN X0.here hx rfl (hb hby d1_15) rfl k) ?_
    show Done p e below s _ _ _ (s₁.setTop (mkF m 16 #[.val (.ref a1), .val (.int (1 : Int32)), .val (.int (3 : Int32)), .val (.long v1), .second] [(.int (1 : Int32)), (.ref a1)]))
    refine Done.step (fun t k => XS.aloadN X0.here hx rfl (hb hby d1_16) rfl rfl k) ?_
    show Done p e below s _ _ _ (s₁.setTop (mkF m 17 #[.val (.ref a1), .val (.int (1 : Int32)), .val (.int (3 : Int32)), .val (.long v1), .second] [(.ref a1), (.int (1 : Int32)), (.ref a1)]))
    refine Done.step (fun t k => XS.iloadN X0.here hx rfl (hb hby d1_17) rfl k) ?_
    show Done p e below s _ _ _ (s₁.setTop (mkF m 18 #[.val (.ref a1), .val (.int (1 : Int32)), .val (.int (3 : Int32)), .val (.long v1), .second] [(.int (3 : Int32)), (.ref a1), (.int (1 : Int32)), (.ref a1)]))
    refine Done.step (ldJ X0 hx hZ e0 A1 (j := (3 : Int32)) (x := (.long v3)) (by decide) rfl (g := (mkF m 18 #[.val (.ref a1), .val (.int (1 : Int32)), .val (.int (3 : Int32)), .val (.long v1), .second] [(.int (3 : Int32)), (.ref a1), (.int (1 : Int32)), (.ref a1)])) rfl rfl (hb hby d1_18)) ?_
    show Done p e below s _ _ _ (s₁.setTop (mkF m 19 #[.val (.ref a1), .val (.int (1 : Int32)), .val (.int (3 : Int32)), .val (.long v1), .second] [(.long v3), (.int (1 : Int32)), (.ref a1)]))
    obtain ⟨T101, h101, X101, e101, W101, A101, st101⟩ := stoJ X0 hx hZ e0 A1 (j := (1 : Int32)) (by decide) (i := 1) (by decide) (Nat.le_of_ble_eq_true rfl) (g := (mkF m 19 #[.val (.ref a1), .val (.int (1 : Int32)), .val (.int (3 : Int32)), .val (.long v1), .second] [(.long v3), (.int (1 : Int32)), (.ref a1)])) rfl rfl (hb hby d1_19)
    have f102 : Ax Z h101 a1 .long [(.long v0), (.long v3), (.long v2), (.long v3)] := A101
    have Z101 : n0 ≤ h101.size := Nat.le_trans Z0 (Keep.of_wr W101).1
    have N101 := Fr.snoc X101 N0 g1
    have K101 : Keep h0 h101 [a1] := (Keep.refl h0 [a1]).wr W101 (Or.inl (by simp))
    refine Done.step st101 ?_
    show Done p e below s _ _ _ (T101.setTop (mkF m 20 #[.val (.ref a1), .val (.int (1 : Int32)), .val (.int (3 : Int32)), .val (.long v1), .second] []))
    refine Done.step (fun t k => XS.aloadN X101.here hx rfl (hb hby d1_20) rfl rfl k) ?_
    show Done p e below s _ _ _ (T101.setTop (mkF m 21 #[.val (.ref a1), .val (.int (1 : Int32)), .val (.int (3 : Int32)), .val (.long v1), .second] [(.ref a1)]))
    refine Done.step (fun t k => XS.iloadN X101.here hx rfl (hb hby d1_21) rfl k) ?_
    show Done p e below s _ _ _ (T101.setTop (mkF m 22 #[.val (.ref a1), .val (.int (1 : Int32)), .val (.int (3 : Int32)), .val (.long v1), .second] [(.int (3 : Int32)), (.ref a1)]))
    refine Done.step (fun t k => XS.lloadN X101.here hx rfl (hb hby d1_22) rfl k) ?_
    show Done p e below s _ _ _ (T101.setTop (mkF m 23 #[.val (.ref a1), .val (.int (1 : Int32)), .val (.int (3 : Int32)), .val (.long v1), .second] [(.long v1), (.int (3 : Int32)), (.ref a1)]))
    obtain ⟨T103, h103, X103, e103, W103, A103, st103⟩ := stoJ X101 hx hZ e101 f102 (j := (3 : Int32)) (by decide) (i := 3) (by decide) (Nat.le_of_ble_eq_true rfl) (g := (mkF m 23 #[.val (.ref a1), .val (.int (1 : Int32)), .val (.int (3 : Int32)), .val (.long v1), .second] [(.long v1), (.int (3 : Int32)), (.ref a1)])) rfl rfl (hb hby d1_23)
    have f104 : Ax Z h103 a1 .long [(.long v0), (.long v3), (.long v2), (.long v1)] := A103
    have Z103 : n0 ≤ h103.size := Nat.le_trans Z101 (Keep.of_wr W103).1
    have N103 := Fr.snoc X103 N101 g1
    have K103 : Keep h0 h103 [a1] := K101.wr W103 (Or.inl (by simp))
    refine Done.step st103 ?_
    show Done p e below s _ _ _ (T103.setTop (mkF m 24 #[.val (.ref a1), .val (.int (1 : Int32)), .val (.int (3 : Int32)), .val (.long v1), .second] []))
    exact Done.void X103 hx hlk hret (hb hby d1_24) (by decide) (by decide) ⟨rfl, N103, (by rw [e103]; exact ⟨K103, ⟨v3, v1, f104, Int.le_of_lt (Int64.lt_iff_toInt_lt.mp c1), Or.inr ⟨rfl, rfl⟩⟩⟩)⟩
  · refine Done.step (fun t k => XS.ifYes X0.here hx rfl (pc0 := 7) (pc' := 24) rfl (hb hby d1_7) rfl ((if0 _ _).trans (flt (fun q_ => c1 ((lw_lt _ _).mp q_))).2.1) (by decide) (by decide) k) ?_
    show Done p e below s _ _ _ (s₁.setTop (mkF m 24 #[.val (.ref a1), .val (.int (1 : Int32)), .val (.int (3 : Int32)), .unset, .unset] []))
    exact Done.void X0 hx hlk hret (hb hby d1_24) (by decide) (by decide) ⟨rfl, N0, (by rw [e0]; exact ⟨(Keep.refl h0 [a1]), ⟨v1, v3, A1, Int.not_lt.mp (fun q_ => c1 (Int64.lt_iff_toInt_lt.mpr q_)), Or.inl ⟨rfl, rfl⟩⟩⟩)⟩
def Qrmo12 (Z : State) (a1 : Addr) (p2 : Int32) (p3 : Int32) (v0 v1 v2 v3 : Int64) (h0 : Heap) (n0 : Nat) : Option Value → Heap → List Loc → Prop := fun v h L => v = none ∧ Fr n0 L ∧ Keep h0 h [a1] ∧ ∃ u t : Int64, Ax Z h a1 .long [(.long v0), (.long u), (.long t), (.long v3)] ∧ u.toInt ≤ t.toInt ∧ ((u = v1 ∧ t = v2) ∨ (u = v2 ∧ t = v1))
set_option maxRecDepth 65536 in
set_option maxHeartbeats 40000000 in
theorem rmo12 (l : Launch) (Z : State) (a0 : Array Value) (hw : ∀ d ∈ tables_1, d.before a0 Z = true) (ws : List Jvm.Cond) (a1 : Addr) (p2 : Int32) (p3 : Int32) (v0 v1 v2 v3 : Int64) (h0 : Heap) (n0 : Nat) (Z0 : n0 ≤ h0.size) (A1 : Ax Z h0 a1 .long [(.long v0), (.long v1), (.long v2), (.long v3)]) (g1 : n0 ≤ a1) (hp2 : p2 = (1 : Int32)) (hp3 : p3 = (2 : Int32)) :
    MetFree l (⟨"com/example/upkeep/upkeep/core/PageChangesVersionAtPinLaw", "order", "([JII)V"⟩ : MethodName) (head1 (Jvm.Cond.code (⟨"com/example/upkeep/upkeep/core/PageChangesVersionAtPinLaw", "order", "([JII)V"⟩ : MethodName) method_3_code 5 none :: ws) ({ frames := 0, cells := 0, slots := 0, locals := 0 } : Room)) (fun a U => a = #[(.ref a1), (.int p2), (.int p3)] ∧ Z.Warmed39 U.vm ∧ U.heap = h0) (fun _ _ _ _ _ => True) (fun _ U o U' => ∃ v L, o = .returned v ∧ Qrmo12 Z a1 p2 p3 v0 v1 v2 v3 h0 n0 v U'.heap L ∧ FrameEnd U o U' L ({ frames := 0, cells := 0, slots := 0, locals := 0 } : Room).cells ({ frames := 0, cells := 0, slots := 0, locals := 0 } : Room).slots) := by
  refine MetFree.of_bodySF (plainFor_of_name pn_1) hisR ?_
  intro p e s m args below meth c s₁ Bd hml0 hP hK
  obtain ⟨rfl, hZ, hh⟩ := hP
  have hx := Bd.exec
  have hby := Bd.bytes
  have hml : c.maxLocals = 5 := hml0
  have hown : s.vm.findClass "com/example/upkeep/upkeep/core/PageChangesVersionAtPinLaw" = some m.cls := findClass_of_methodNamed Bd.named
  have hnm := (name_of_methodNamed Bd.named Bd.method).1
  have hlk : meth.locks = false := BodyLoose.notSynchronized Bd
  have hret := Bd.returns
  have X0 : Stand p l e ({ frames := 0, cells := 0, slots := 0, locals := 0 } : Room) s m #[(.ref a1), (.int p2), (.int p3)] below meth c s₁ [] 0 0 := Stand.of_body Bd
  have e0 : s₁.heap = h0 := by rw [← hh, Bd.state]; rfl
  have N0 := Fr.nil n0
  show Done p e below s (Qrmo12 Z a1 p2 p3 v0 v1 v2 v3 h0 n0) ({ frames := 0, cells := 0, slots := 0, locals := 0 } : Room).cells ({ frames := 0, cells := 0, slots := 0, locals := 0 } : Room).slots (s₁.setTop (entryFrame m #[(.ref a1), (.int p2), (.int p3)] 5))
  refine Done.step (fun t k => castTop (ef_1 m a1 p2 p3) k) ?_
  subst hp2 hp3
  show Done p e below s _ _ _ (s₁.setTop (mkF m 0 #[.val (.ref a1), .val (.int (1 : Int32)), .val (.int (2 : Int32)), .unset, .unset] []))
  refine Done.step (fun t k => XS.aloadN X0.here hx rfl (hb hby d1_0) rfl rfl k) ?_
  show Done p e below s _ _ _ (s₁.setTop (mkF m 1 #[.val (.ref a1), .val (.int (1 : Int32)), .val (.int (2 : Int32)), .unset, .unset] [(.ref a1)]))
  refine Done.step (fun t k => XS.iloadN X0.here hx rfl (hb hby d1_1) rfl k) ?_
  show Done p e below s _ _ _ (s₁.setTop (mkF m 2 #[.val (.ref a1), .val (.int (1 : Int32)), .val (.int (2 : Int32)), .unset, .unset] [(.int (2 : Int32)), (.ref a1)]))
  refine Done.step (ldJ X0 hx hZ e0 A1 (j := (2 : Int32)) (x := (.long v2)) (by decide) rfl (g := (mkF m 2 #[.val (.ref a1), .val (.int (1 : Int32)), .val (.int (2 : Int32)), .unset, .unset] [(.int (2 : Int32)), (.ref a1)])) rfl rfl (hb hby d1_2)) ?_
  show Done p e below s _ _ _ (s₁.setTop (mkF m 3 #[.val (.ref a1), .val (.int (1 : Int32)), .val (.int (2 : Int32)), .unset, .unset] [(.long v2)]))
  refine Done.step (fun t k => XS.aloadN X0.here hx rfl (hb hby d1_3) rfl rfl k) ?_
  show Done p e below s _ _ _ (s₁.setTop (mkF m 4 #[.val (.ref a1), .val (.int (1 : Int32)), .val (.int (2 : Int32)), .unset, .unset] [(.ref a1), (.long v2)]))
  refine Done.step (fun t k => XS.iloadN X0.here hx rfl (hb hby d1_4) rfl k) ?_
  show Done p e below s _ _ _ (s₁.setTop (mkF m 5 #[.val (.ref a1), .val (.int (1 : Int32)), .val (.int (2 : Int32)), .unset, .unset] [(.int (1 : Int32)), (.ref a1), (.long v2)]))
  refine Done.step (ldJ X0 hx hZ e0 A1 (j := (1 : Int32)) (x := (.long v1)) (by decide) rfl (g := (mkF m 5 #[.val (.ref a1), .val (.int (1 : Int32)), .val (.int (2 : Int32)), .unset, .unset] [(.int (1 : Int32)), (.ref a1), (.long v2)])) rfl rfl (hb hby d1_5)) ?_
  show Done p e below s _ _ _ (s₁.setTop (mkF m 6 #[.val (.ref a1), .val (.int (1 : Int32)), .val (.int (2 : Int32)), .unset, .unset] [(.long v1), (.long v2)]))
  refine Done.step (fun t k => XS.lcmp X0.here hx rfl (hb hby d1_6) rfl k) ?_
  show Done p e below s _ _ _ (s₁.setTop (mkF m 7 #[.val (.ref a1), .val (.int (1 : Int32)), .val (.int (2 : Int32)), .unset, .unset] [(.int (lcmpW v2 v1))]))
  by_cases c1 : v2 < v1
  · refine Done.step (fun t k => XS.ifNo X0.here hx rfl (hb hby d1_7) rfl ((if0 _ _).trans (tlt ((lw_lt _ _).mpr c1)).2.1) k) ?_
    show Done p e below s _ _ _ (s₁.setTop (mkF m 10 #[.val (.ref a1), .val (.int (1 : Int32)), .val (.int (2 : Int32)), .unset, .unset] []))
    refine Done.step (fun t k => XS.aloadN X0.here hx rfl (hb hby d1_10) rfl rfl k) ?_
    show Done p e below s _ _ _ (s₁.setTop (mkF m 11 #[.val (.ref a1), .val (.int (1 : Int32)), .val (.int (2 : Int32)), .unset, .unset] [(.ref a1)]))
    refine Done.step (fun t k => XS.iloadN X0.here hx rfl (hb hby d1_11) rfl k) ?_
    show Done p e below s _ _ _ (s₁.setTop (mkF m 12 #[.val (.ref a1), .val (.int (1 : Int32)), .val (.int (2 : Int32)), .unset, .unset] [(.int (1 : Int32)), (.ref a1)]))
    refine Done.step (ldJ X0 hx hZ e0 A1 (j := (1 : Int32)) (x := (.long v1)) (by decide) rfl (g := (mkF m 12 #[.val (.ref a1), .val (.int (1 : Int32)), .val (.int (2 : Int32)), .unset, .unset] [(.int (1 : Int32)), (.ref a1)])) rfl rfl (hb hby d1_12)) ?_
    show Done p e below s _ _ _ (s₁.setTop (mkF m 13 #[.val (.ref a1), .val (.int (1 : Int32)), .val (.int (2 : Int32)), .unset, .unset] [(.long v1)]))
    refine Done.step (fun t k => XS.lstoreN X0.here hx rfl (hb hby d1_13) rfl (l' := #[.val (.ref a1), .val (.int (1 : Int32)), .val (.int (2 : Int32)), .val (.long v1), .second]) rfl k) ?_
    show Done p e below s _ _ _ (s₁.setTop (mkF m 14 #[.val (.ref a1), .val (.int (1 : Int32)), .val (.int (2 : Int32)), .val (.long v1), .second] []))
    refine Done.step (fun t k => XS.aloadN X0.here hx rfl (hb hby d1_14) rfl rfl k) ?_
    show Done p e below s _ _ _ (s₁.setTop (mkF m 15 #[.val (.ref a1), .val (.int (1 : Int32)), .val (.int (2 : Int32)), .val (.long v1), .second] [(.ref a1)]))
    refine Done.step (fun t k => XS.iloadN X0.here hx rfl (hb hby d1_15) rfl k) ?_
    show Done p e below s _ _ _ (s₁.setTop (mkF m 16 #[.val (.ref a1), .val (.int (1 : Int32)), .val (.int (2 : Int32)), .val (.long v1), .second] [(.int (1 : Int32)), (.ref a1)]))
    refine Done.step (fun t k => XS.aloadN X0.here hx rfl (hb hby d1_16) rfl rfl k) ?_
    show Done p e below s _ _ _ (s₁.setTop (mkF m 17 #[.val (.ref a1), .val (.int (1 : Int32)), .val (.int (2 : Int32)), .val (.long v1), .second] [(.ref a1), (.int (1 : Int32)), (.ref a1)]))
    refine Done.step (fun t k => XS.iloadN X0.here hx rfl (hb hby d1_17) rfl k) ?_
    show Done p e below s _ _ _ (s₁.setTop (mkF m 18 #[.val (.ref a1), .val (.int (1 : Int32)), .val (.int (2 : Int32)), .val (.long v1), .second] [(.int (2 : Int32)), (.ref a1), (.int (1 : Int32)), (.ref a1)]))
    refine Done.step (ldJ X0 hx hZ e0 A1 (j := (2 : Int32)) (x := (.long v2)) (by decide) rfl (g := (mkF m 18 #[.val (.ref a1), .val (.int (1 : Int32)), .val (.int (2 : Int32)), .val (.long v1), .second] [(.int (2 : Int32)), (.ref a1), (.int (1 : Int32)), (.ref a1)])) rfl rfl (hb hby d1_18)) ?_
    show Done p e below s _ _ _ (s₁.setTop (mkF m 19 #[.val (.ref a1), .val (.int (1 : Int32)), .val (.int (2 : Int32)), .val (.long v1), .second] [(.long v2), (.int (1 : Int32)), (.ref a1)]))
    obtain ⟨T101, h101, X101, e101, W101, A101, st101⟩ := stoJ X0 hx hZ e0 A1 (j := (1 : Int32)) (by decide) (i := 1) (by decide) (Nat.le_of_ble_eq_true rfl) (g := (mkF m 19 #[.val (.ref a1), .val (.int (1 : Int32)), .val (.int (2 : Int32)), .val (.long v1), .second] [(.long v2), (.int (1 : Int32)), (.ref a1)])) rfl rfl (hb hby d1_19)
    have f102 : Ax Z h101 a1 .long [(.long v0), (.long v2), (.long v2), (.long v3)] := A101
    have Z101 : n0 ≤ h101.size := Nat.le_trans Z0 (Keep.of_wr W101).1
    have N101 := Fr.snoc X101 N0 g1
    have K101 : Keep h0 h101 [a1] := (Keep.refl h0 [a1]).wr W101 (Or.inl (by simp))
    refine Done.step st101 ?_
    show Done p e below s _ _ _ (T101.setTop (mkF m 20 #[.val (.ref a1), .val (.int (1 : Int32)), .val (.int (2 : Int32)), .val (.long v1), .second] []))
    refine Done.step (fun t k => XS.aloadN X101.here hx rfl (hb hby d1_20) rfl rfl k) ?_
    show Done p e below s _ _ _ (T101.setTop (mkF m 21 #[.val (.ref a1), .val (.int (1 : Int32)), .val (.int (2 : Int32)), .val (.long v1), .second] [(.ref a1)]))
    refine Done.step (fun t k => XS.iloadN X101.here hx rfl (hb hby d1_21) rfl k) ?_
    show Done p e below s _ _ _ (T101.setTop (mkF m 22 #[.val (.ref a1), .val (.int (1 : Int32)), .val (.int (2 : Int32)), .val (.long v1), .second] [(.int (2 : Int32)), (.ref a1)]))
    refine Done.step (fun t k => XS.lloadN X101.here hx rfl (hb hby d1_22) rfl k) ?_
    show Done p e below s _ _ _ (T101.setTop (mkF m 23 #[.val (.ref a1), .val (.int (1 : Int32)), .val (.int (2 : Int32)), .val (.long v1), .second] [(.long v1), (.int (2 : Int32)), (.ref a1)]))
    obtain ⟨T103, h103, X103, e103, W103, A103, st103⟩ := stoJ X101 hx hZ e101 f102 (j := (2 : Int32)) (by decide) (i := 2) (by decide) (Nat.le_of_ble_eq_true rfl) (g := (mkF m 23 #[.val (.ref a1), .val (.int (1 : Int32)), .val (.int (2 : Int32)), .val (.long v1), .second] [(.long v1), (.int (2 : Int32)), (.ref a1)])) rfl rfl (hb hby d1_23)
    have f104 : Ax Z h103 a1 .long [(.long v0), (.long v2), (.long v1), (.long v3)] := A103
    have Z103 : n0 ≤ h103.size := Nat.le_trans Z101 (Keep.of_wr W103).1
    have N103 := Fr.snoc X103 N101 g1
    have K103 : Keep h0 h103 [a1] := K101.wr W103 (Or.inl (by simp))
    refine Done.step st103 ?_
    show Done p e below s _ _ _ (T103.setTop (mkF m 24 #[.val (.ref a1), .val (.int (1 : Int32)), .val (.int (2 : Int32)), .val (.long v1), .second] []))
    exact Done.void X103 hx hlk hret (hb hby d1_24) (by decide) (by decide) ⟨rfl, N103, (by rw [e103]; exact ⟨K103, ⟨v2, v1, f104, Int.le_of_lt (Int64.lt_iff_toInt_lt.mp c1), Or.inr ⟨rfl, rfl⟩⟩⟩)⟩
  · refine Done.step (fun t k => XS.ifYes X0.here hx rfl (pc0 := 7) (pc' := 24) rfl (hb hby d1_7) rfl ((if0 _ _).trans (flt (fun q_ => c1 ((lw_lt _ _).mp q_))).2.1) (by decide) (by decide) k) ?_
    show Done p e below s _ _ _ (s₁.setTop (mkF m 24 #[.val (.ref a1), .val (.int (1 : Int32)), .val (.int (2 : Int32)), .unset, .unset] []))
    exact Done.void X0 hx hlk hret (hb hby d1_24) (by decide) (by decide) ⟨rfl, N0, (by rw [e0]; exact ⟨(Keep.refl h0 [a1]), ⟨v1, v2, A1, Int.not_lt.mp (fun q_ => c1 (Int64.lt_iff_toInt_lt.mpr q_)), Or.inl ⟨rfl, rfl⟩⟩⟩)⟩
theorem d2_0 : decode method_4_code 0 = .ok (.iload_n 1, 1) := by decide +kernel
theorem d2_1 : decode method_4_code 1 = .ok (.ifCond .ne 7, 3) := by decide +kernel
theorem d2_4 : decode method_4_code 4 = .ok (.iconst 0, 1) := by decide +kernel
theorem d2_5 : decode method_4_code 5 = .ok (.newarray .long, 2) := by decide +kernel
theorem d2_7 : decode method_4_code 7 = .ok (.areturn, 1) := by decide +kernel
theorem d2_8 : decode method_4_code 8 = .ok (.iload_n 1, 1) := by decide +kernel
theorem d2_9 : decode method_4_code 9 = .ok (.iconst 1, 1) := by decide +kernel
theorem d2_10 : decode method_4_code 10 = .ok (.if_icmp .ne 13, 3) := by decide +kernel
theorem d2_13 : decode method_4_code 13 = .ok (.iconst 1, 1) := by decide +kernel
theorem d2_14 : decode method_4_code 14 = .ok (.newarray .long, 2) := by decide +kernel
theorem d2_16 : decode method_4_code 16 = .ok (.dup, 1) := by decide +kernel
theorem d2_17 : decode method_4_code 17 = .ok (.iconst 0, 1) := by decide +kernel
theorem d2_18 : decode method_4_code 18 = .ok (.aload_n 0, 1) := by decide +kernel
theorem d2_19 : decode method_4_code 19 = .ok (.iconst 0, 1) := by decide +kernel
theorem d2_20 : decode method_4_code 20 = .ok (.laload, 1) := by decide +kernel
theorem d2_21 : decode method_4_code 21 = .ok (.lastore, 1) := by decide +kernel
theorem d2_22 : decode method_4_code 22 = .ok (.areturn, 1) := by decide +kernel
theorem d2_23 : decode method_4_code 23 = .ok (.iload_n 1, 1) := by decide +kernel
theorem d2_24 : decode method_4_code 24 = .ok (.iconst 2, 1) := by decide +kernel
theorem d2_25 : decode method_4_code 25 = .ok (.if_icmp .ne 19, 3) := by decide +kernel
theorem d2_28 : decode method_4_code 28 = .ok (.iconst 2, 1) := by decide +kernel
theorem d2_29 : decode method_4_code 29 = .ok (.newarray .long, 2) := by decide +kernel
theorem d2_31 : decode method_4_code 31 = .ok (.dup, 1) := by decide +kernel
theorem d2_32 : decode method_4_code 32 = .ok (.iconst 0, 1) := by decide +kernel
theorem d2_33 : decode method_4_code 33 = .ok (.aload_n 0, 1) := by decide +kernel
theorem d2_34 : decode method_4_code 34 = .ok (.iconst 0, 1) := by decide +kernel
theorem d2_35 : decode method_4_code 35 = .ok (.laload, 1) := by decide +kernel
theorem d2_36 : decode method_4_code 36 = .ok (.lastore, 1) := by decide +kernel
theorem d2_37 : decode method_4_code 37 = .ok (.dup, 1) := by decide +kernel
theorem d2_38 : decode method_4_code 38 = .ok (.iconst 1, 1) := by decide +kernel
theorem d2_39 : decode method_4_code 39 = .ok (.aload_n 0, 1) := by decide +kernel
theorem d2_40 : decode method_4_code 40 = .ok (.iconst 1, 1) := by decide +kernel
theorem d2_41 : decode method_4_code 41 = .ok (.laload, 1) := by decide +kernel
theorem d2_42 : decode method_4_code 42 = .ok (.lastore, 1) := by decide +kernel
theorem d2_43 : decode method_4_code 43 = .ok (.areturn, 1) := by decide +kernel
theorem d2_44 : decode method_4_code 44 = .ok (.iload_n 1, 1) := by decide +kernel
theorem d2_45 : decode method_4_code 45 = .ok (.iconst 3, 1) := by decide +kernel
theorem d2_46 : decode method_4_code 46 = .ok (.if_icmp .ne 25, 3) := by decide +kernel
theorem d2_49 : decode method_4_code 49 = .ok (.iconst 3, 1) := by decide +kernel
theorem d2_50 : decode method_4_code 50 = .ok (.newarray .long, 2) := by decide +kernel
theorem d2_52 : decode method_4_code 52 = .ok (.dup, 1) := by decide +kernel
theorem d2_53 : decode method_4_code 53 = .ok (.iconst 0, 1) := by decide +kernel
theorem d2_54 : decode method_4_code 54 = .ok (.aload_n 0, 1) := by decide +kernel
theorem d2_55 : decode method_4_code 55 = .ok (.iconst 0, 1) := by decide +kernel
theorem d2_56 : decode method_4_code 56 = .ok (.laload, 1) := by decide +kernel
theorem d2_57 : decode method_4_code 57 = .ok (.lastore, 1) := by decide +kernel
theorem d2_58 : decode method_4_code 58 = .ok (.dup, 1) := by decide +kernel
theorem d2_59 : decode method_4_code 59 = .ok (.iconst 1, 1) := by decide +kernel
theorem d2_60 : decode method_4_code 60 = .ok (.aload_n 0, 1) := by decide +kernel
theorem d2_61 : decode method_4_code 61 = .ok (.iconst 1, 1) := by decide +kernel
theorem d2_62 : decode method_4_code 62 = .ok (.laload, 1) := by decide +kernel
theorem d2_63 : decode method_4_code 63 = .ok (.lastore, 1) := by decide +kernel
theorem d2_64 : decode method_4_code 64 = .ok (.dup, 1) := by decide +kernel
theorem d2_65 : decode method_4_code 65 = .ok (.iconst 2, 1) := by decide +kernel
theorem d2_66 : decode method_4_code 66 = .ok (.aload_n 0, 1) := by decide +kernel
theorem d2_67 : decode method_4_code 67 = .ok (.iconst 2, 1) := by decide +kernel
theorem d2_68 : decode method_4_code 68 = .ok (.laload, 1) := by decide +kernel
theorem d2_69 : decode method_4_code 69 = .ok (.lastore, 1) := by decide +kernel
theorem d2_70 : decode method_4_code 70 = .ok (.areturn, 1) := by decide +kernel
theorem d2_71 : decode method_4_code 71 = .ok (.iconst 4, 1) := by decide +kernel
theorem d2_72 : decode method_4_code 72 = .ok (.newarray .long, 2) := by decide +kernel
theorem d2_74 : decode method_4_code 74 = .ok (.dup, 1) := by decide +kernel
theorem d2_75 : decode method_4_code 75 = .ok (.iconst 0, 1) := by decide +kernel
theorem d2_76 : decode method_4_code 76 = .ok (.aload_n 0, 1) := by decide +kernel
theorem d2_77 : decode method_4_code 77 = .ok (.iconst 0, 1) := by decide +kernel
theorem d2_78 : decode method_4_code 78 = .ok (.laload, 1) := by decide +kernel
theorem d2_79 : decode method_4_code 79 = .ok (.lastore, 1) := by decide +kernel
theorem d2_80 : decode method_4_code 80 = .ok (.dup, 1) := by decide +kernel
theorem d2_81 : decode method_4_code 81 = .ok (.iconst 1, 1) := by decide +kernel
theorem d2_82 : decode method_4_code 82 = .ok (.aload_n 0, 1) := by decide +kernel
theorem d2_83 : decode method_4_code 83 = .ok (.iconst 1, 1) := by decide +kernel
theorem d2_84 : decode method_4_code 84 = .ok (.laload, 1) := by decide +kernel
theorem d2_85 : decode method_4_code 85 = .ok (.lastore, 1) := by decide +kernel
theorem d2_86 : decode method_4_code 86 = .ok (.dup, 1) := by decide +kernel
theorem d2_87 : decode method_4_code 87 = .ok (.iconst 2, 1) := by decide +kernel
theorem d2_88 : decode method_4_code 88 = .ok (.aload_n 0, 1) := by decide +kernel
theorem d2_89 : decode method_4_code 89 = .ok (.iconst 2, 1) := by decide +kernel
theorem d2_90 : decode method_4_code 90 = .ok (.laload, 1) := by decide +kernel
theorem d2_91 : decode method_4_code 91 = .ok (.lastore, 1) := by decide +kernel
theorem d2_92 : decode method_4_code 92 = .ok (.dup, 1) := by decide +kernel
theorem d2_93 : decode method_4_code 93 = .ok (.iconst 3, 1) := by decide +kernel
theorem d2_94 : decode method_4_code 94 = .ok (.aload_n 0, 1) := by decide +kernel
theorem d2_95 : decode method_4_code 95 = .ok (.iconst 3, 1) := by decide +kernel
theorem d2_96 : decode method_4_code 96 = .ok (.laload, 1) := by decide +kernel
theorem d2_97 : decode method_4_code 97 = .ok (.lastore, 1) := by decide +kernel
theorem d2_98 : decode method_4_code 98 = .ok (.areturn, 1) := by decide +kernel
def PFX (p2 : Int32) (v0 v1 v2 v3 : Int64) : List Int64 := (if p2 = (0 : Int32) then []
  else (if p2 = (1 : Int32) then [v0]
    else (if p2 = (2 : Int32) then [v0, v1]
      else (if p2 = (3 : Int32) then [v0, v1, v2]
        else [v0, v1, v2, v3]))))
theorem pn_2 : plainName "com/example/upkeep/upkeep/core/PageChangesVersionAtPinLaw" = true := by first | (simp [plainName, overriddenIn]; done) | decide +kernel
theorem ef_2 (m : MethodId) (a1 : Addr) (p2 : Int32) : entryFrame m #[(.ref a1), (.int p2)] 2 = mkF m 0 #[.val (.ref a1), .val (.int p2)] [] := by first | (simp [entryFrame, mkF, argsToLocals, Value.category]; done) | rfl
def Qrm2 (Z : State) (a1 : Addr) (p2 : Int32) (v0 v1 v2 v3 : Int64) (h0 : Heap) (n0 : Nat) : Option Value → Heap → List Loc → Prop := fun v h L => ∃ b : Addr, v = some (.ref b) ∧ Fr n0 L ∧ Keep h0 h [] ∧ Ax Z h b .long ((PFX p2 v0 v1 v2 v3).map Value.long) ∧ Exa Z h b "[J" ∧ h0.size ≤ b
set_option maxRecDepth 65536 in
set_option maxHeartbeats 40000000 in
theorem rm2 (l : Launch) (Z : State) (a0 : Array Value) (hw : ∀ d ∈ tables_1, d.before a0 Z = true) (ws : List Jvm.Cond) (a1 : Addr) (p2 : Int32) (v0 v1 v2 v3 : Int64) (h0 : Heap) (n0 : Nat) (Z0 : n0 ≤ h0.size) (A1 : Ax Z h0 a1 .long [(.long v0), (.long v1), (.long v2), (.long v3)]) :
    MetFree l (⟨"com/example/upkeep/upkeep/core/PageChangesVersionAtPinLaw", "prefix", "([JI)[J"⟩ : MethodName) (head1 (Jvm.Cond.code (⟨"com/example/upkeep/upkeep/core/PageChangesVersionAtPinLaw", "prefix", "([JI)[J"⟩ : MethodName) method_4_code 2 (some (.array .long)) :: ws) ({ frames := 0, cells := 1, slots := 4, locals := 0 } : Room)) (fun a U => a = #[(.ref a1), (.int p2)] ∧ Z.Warmed39 U.vm ∧ U.heap = h0) (fun _ _ _ _ _ => True) (fun _ U o U' => ∃ v L, o = .returned v ∧ Qrm2 Z a1 p2 v0 v1 v2 v3 h0 n0 v U'.heap L ∧ FrameEnd U o U' L ({ frames := 0, cells := 1, slots := 4, locals := 0 } : Room).cells ({ frames := 0, cells := 1, slots := 4, locals := 0 } : Room).slots) := by
  refine MetFree.of_bodySF (plainFor_of_name pn_2) hisR ?_
  intro p e s m args below meth c s₁ Bd hml0 hP hK
  obtain ⟨rfl, hZ, hh⟩ := hP
  have hx := Bd.exec
  have hby := Bd.bytes
  have hml : c.maxLocals = 2 := hml0
  have hown : s.vm.findClass "com/example/upkeep/upkeep/core/PageChangesVersionAtPinLaw" = some m.cls := findClass_of_methodNamed Bd.named
  have hnm := (name_of_methodNamed Bd.named Bd.method).1
  have hlk : meth.locks = false := BodyLoose.notSynchronized Bd
  have hret := Bd.returns
  have X0 : Stand p l e ({ frames := 0, cells := 1, slots := 4, locals := 0 } : Room) s m #[(.ref a1), (.int p2)] below meth c s₁ [] 0 0 := Stand.of_body Bd
  have e0 : s₁.heap = h0 := by rw [← hh, Bd.state]; rfl
  have N0 := Fr.nil n0
  show Done p e below s (Qrm2 Z a1 p2 v0 v1 v2 v3 h0 n0) ({ frames := 0, cells := 1, slots := 4, locals := 0 } : Room).cells ({ frames := 0, cells := 1, slots := 4, locals := 0 } : Room).slots (s₁.setTop (entryFrame m #[(.ref a1), (.int p2)] 2))
  refine Done.step (fun t k => castTop (ef_2 m a1 p2) k) ?_
  show Done p e below s _ _ _ (s₁.setTop (mkF m 0 #[.val (.ref a1), .val (.int p2)] []))
  refine Done.step (fun t k => XS.iloadN X0.here hx rfl (hb hby d2_0) rfl k) ?_
  show Done p e below s _ _ _ (s₁.setTop (mkF m 1 #[.val (.ref a1), .val (.int p2)] [(.int p2)]))
  by_cases c1 : p2 = (0 : Int32)
  · refine Done.step (fun t k => XS.ifNo X0.here hx rfl (hb hby d2_1) rfl ((if0 _ _).trans (teq c1).2) k) ?_
    show Done p e below s _ _ _ (s₁.setTop (mkF m 4 #[.val (.ref a1), .val (.int p2)] []))
    refine Done.step (fun t k => XS.iconst X0.here hx rfl (hb hby d2_4) k) ?_
    show Done p e below s _ _ _ (s₁.setTop (mkF m 5 #[.val (.ref a1), .val (.int p2)] [(.int (0 : Int32))]))
    obtain ⟨T101, h101, k101, X101, e101, E101, A101, B101, st101⟩ := newPE X0 hx hZ (hw _ (List.mem_of_getElem? (i := 0) rfl)) e0 (g := (mkF m 5 #[.val (.ref a1), .val (.int p2)] [(.int (0 : Int32))])) rfl (hb hby d2_5) rfl (by decide) (cap := 0) (by decide) (by decide) (by decide) (by decide) (ad := "[J") (by decide)
    obtain ⟨b101, gq101⟩ : ∃ z, z = h0.size := ⟨_, rfl⟩
    rw [← gq101] at A101 B101 st101
    have ne102 : a1 ≠ b101 := Nat.ne_of_lt (Nat.lt_of_lt_of_le A1.lt (Nat.le_of_eq gq101.symm))
    have f103 : Ax Z h101 a1 .long [(.long v0), (.long v1), (.long v2), (.long v3)] := A1.ext E101
    have g_b101 : n0 ≤ b101 := Nat.le_trans Z0 (Nat.le_of_eq gq101.symm)
    have sz_b101 : h0.size ≤ b101 := Nat.le_trans (Keep.refl h0 []).1 (Nat.le_of_eq gq101.symm)
    have Z101 : n0 ≤ h101.size := Nat.le_trans Z0 E101.1
    have K101 : Keep h0 h101 [] := (Keep.refl h0 []).ext E101
    have f104 : Ax Z h101 b101 .long [] := Ax.new (ty := .long) (i := 0) A101 (by decide)
    refine Done.step st101 ?_
    show Done p e below s _ _ _ (T101.setTop (mkF m 7 #[.val (.ref a1), .val (.int p2)] [(.ref b101)]))
    exact Done.ref X101 hx hlk hret rfl rfl rfl (hb hby d2_7) (by decide) (by decide) ⟨b101, rfl, N0, (by rw [e101]; exact ⟨K101, by rw [show PFX p2 v0 v1 v2 v3 = [] from by unfold PFX; rw [if_pos c1]]; exact f104, B101, sz_b101⟩)⟩
  · refine Done.step (fun t k => XS.ifYes X0.here hx rfl (pc0 := 1) (pc' := 8) rfl (hb hby d2_1) rfl ((if0 _ _).trans (feq c1).2) (by decide) (by decide) k) ?_
    show Done p e below s _ _ _ (s₁.setTop (mkF m 8 #[.val (.ref a1), .val (.int p2)] []))
    refine Done.step (fun t k => XS.iloadN X0.here hx rfl (hb hby d2_8) rfl k) ?_
    show Done p e below s _ _ _ (s₁.setTop (mkF m 9 #[.val (.ref a1), .val (.int p2)] [(.int p2)]))
    refine Done.step (fun t k => XS.iconst X0.here hx rfl (hb hby d2_9) k) ?_
    show Done p e below s _ _ _ (s₁.setTop (mkF m 10 #[.val (.ref a1), .val (.int p2)] [(.int (1 : Int32)), (.int p2)]))
    by_cases c2 : p2 = (1 : Int32)
    · refine Done.step (fun t k => XS.icmpNo X0.here hx rfl (hb hby d2_10) rfl (teq c2).2 k) ?_
      show Done p e below s _ _ _ (s₁.setTop (mkF m 13 #[.val (.ref a1), .val (.int p2)] []))
      refine Done.step (fun t k => XS.iconst X0.here hx rfl (hb hby d2_13) k) ?_
      show Done p e below s _ _ _ (s₁.setTop (mkF m 14 #[.val (.ref a1), .val (.int p2)] [(.int (1 : Int32))]))
      obtain ⟨T105, h105, k105, X105, e105, E105, A105, B105, st105⟩ := newPE X0 hx hZ (hw _ (List.mem_of_getElem? (i := 0) rfl)) e0 (g := (mkF m 14 #[.val (.ref a1), .val (.int p2)] [(.int (1 : Int32))])) rfl (hb hby d2_14) rfl (by decide) (cap := 1) (by decide) (by decide) (by decide) (by decide) (ad := "[J") (by decide)
      obtain ⟨b105, gq105⟩ : ∃ z, z = h0.size := ⟨_, rfl⟩
      rw [← gq105] at A105 B105 st105
      have ne106 : a1 ≠ b105 := Nat.ne_of_lt (Nat.lt_of_lt_of_le A1.lt (Nat.le_of_eq gq105.symm))
      have f107 : Ax Z h105 a1 .long [(.long v0), (.long v1), (.long v2), (.long v3)] := A1.ext E105
      have g_b105 : n0 ≤ b105 := Nat.le_trans Z0 (Nat.le_of_eq gq105.symm)
      have sz_b105 : h0.size ≤ b105 := Nat.le_trans (Keep.refl h0 []).1 (Nat.le_of_eq gq105.symm)
      have Z105 : n0 ≤ h105.size := Nat.le_trans Z0 E105.1
      have K105 : Keep h0 h105 [] := (Keep.refl h0 []).ext E105
      have f108 : Ax Z h105 b105 .long [(.long (0 : Int64))] := Ax.new (ty := .long) (i := 1) A105 (by decide)
      refine Done.step st105 ?_
      show Done p e below s _ _ _ (T105.setTop (mkF m 16 #[.val (.ref a1), .val (.int p2)] [(.ref b105)]))
      refine Done.step (fun t k => XS.dup X105.here hx rfl (hb hby d2_16) rfl rfl k) ?_
      show Done p e below s _ _ _ (T105.setTop (mkF m 17 #[.val (.ref a1), .val (.int p2)] [(.ref b105), (.ref b105)]))
      refine Done.step (fun t k => XS.iconst X105.here hx rfl (hb hby d2_17) k) ?_
      show Done p e below s _ _ _ (T105.setTop (mkF m 18 #[.val (.ref a1), .val (.int p2)] [(.int (0 : Int32)), (.ref b105), (.ref b105)]))
      refine Done.step (fun t k => XS.aloadN X105.here hx rfl (hb hby d2_18) rfl rfl k) ?_
      show Done p e below s _ _ _ (T105.setTop (mkF m 19 #[.val (.ref a1), .val (.int p2)] [(.ref a1), (.int (0 : Int32)), (.ref b105), (.ref b105)]))
      refine Done.step (fun t k => XS.iconst X105.here hx rfl (hb hby d2_19) k) ?_
      show Done p e below s _ _ _ (T105.setTop (mkF m 20 #[.val (.ref a1), .val (.int p2)] [(.int (0 : Int32)), (.ref a1), (.int (0 : Int32)), (.ref b105), (.ref b105)]))
      refine Done.step (ldJ X105 hx hZ e105 f107 (j := (0 : Int32)) (x := (.long v0)) (by decide) rfl (g := (mkF m 20 #[.val (.ref a1), .val (.int p2)] [(.int (0 : Int32)), (.ref a1), (.int (0 : Int32)), (.ref b105), (.ref b105)])) rfl rfl (hb hby d2_20)) ?_
      show Done p e below s _ _ _ (T105.setTop (mkF m 21 #[.val (.ref a1), .val (.int p2)] [(.long v0), (.int (0 : Int32)), (.ref b105), (.ref b105)]))
      obtain ⟨T109, h109, X109, e109, W109, A109, st109⟩ := stoJ X105 hx hZ e105 f108 (j := (0 : Int32)) (by decide) (i := 0) (by decide) (Nat.le_of_ble_eq_true rfl) (g := (mkF m 21 #[.val (.ref a1), .val (.int p2)] [(.long v0), (.int (0 : Int32)), (.ref b105), (.ref b105)])) rfl rfl (hb hby d2_21)
      have f110 : Ax Z h109 a1 .long [(.long v0), (.long v1), (.long v2), (.long v3)] := f107.other W109 ne106
      have f111 : Exa Z h109 b105 "[J" := B105.wr W109
      have f112 : Ax Z h109 b105 .long [(.long v0)] := A109
      have Z109 : n0 ≤ h109.size := Nat.le_trans Z105 (Keep.of_wr W109).1
      have N109 := Fr.snoc X109 N0 g_b105
      have K109 : Keep h0 h109 [] := K105.wr W109 (Or.inr sz_b105)
      refine Done.step st109 ?_
      show Done p e below s _ _ _ (T109.setTop (mkF m 22 #[.val (.ref a1), .val (.int p2)] [(.ref b105)]))
      exact Done.ref X109 hx hlk hret rfl rfl rfl (hb hby d2_22) (by decide) (by decide) ⟨b105, rfl, N109, (by rw [e109]; exact ⟨K109, by rw [show PFX p2 v0 v1 v2 v3 = [v0] from by unfold PFX; rw [if_neg c1, if_pos c2]]; exact f112, f111, sz_b105⟩)⟩
    · refine Done.step (fun t k => XS.icmpYes X0.here hx rfl (pc0 := 10) (pc' := 23) rfl (hb hby d2_10) rfl (feq c2).2 (by decide) (by decide) k) ?_
      show Done p e below s _ _ _ (s₁.setTop (mkF m 23 #[.val (.ref a1), .val (.int p2)] []))
      refine Done.step (fun t k => XS.iloadN X0.here hx rfl (hb hby d2_23) rfl k) ?_
      show Done p e below s _ _ _ (s₁.setTop (mkF m 24 #[.val (.ref a1), .val (.int p2)] [(.int p2)]))
      refine Done.step (fun t k => XS.iconst X0.here hx rfl (hb hby d2_24) k) ?_
      show Done p e below s _ _ _ (s₁.setTop (mkF m 25 #[.val (.ref a1), .val (.int p2)] [(.int (2 : Int32)), (.int p2)]))
      by_cases c3 : p2 = (2 : Int32)
      · refine Done.step (fun t k => XS.icmpNo X0.here hx rfl (hb hby d2_25) rfl (teq c3).2 k) ?_
        show Done p e below s _ _ _ (s₁.setTop (mkF m 28 #[.val (.ref a1), .val (.int p2)] []))
        refine Done.step (fun t k => XS.iconst X0.here hx rfl (hb hby d2_28) k) ?_
        show Done p e below s _ _ _ (s₁.setTop (mkF m 29 #[.val (.ref a1), .val (.int p2)] [(.int (2 : Int32))]))
        obtain ⟨T113, h113, k113, X113, e113, E113, A113, B113, st113⟩ := newPE X0 hx hZ (hw _ (List.mem_of_getElem? (i := 0) rfl)) e0 (g := (mkF m 29 #[.val (.ref a1), .val (.int p2)] [(.int (2 : Int32))])) rfl (hb hby d2_29) rfl (by decide) (cap := 2) (by decide) (by decide) (by decide) (by decide) (ad := "[J") (by decide)
        obtain ⟨b113, gq113⟩ : ∃ z, z = h0.size := ⟨_, rfl⟩
        rw [← gq113] at A113 B113 st113
        have ne114 : a1 ≠ b113 := Nat.ne_of_lt (Nat.lt_of_lt_of_le A1.lt (Nat.le_of_eq gq113.symm))
        have f115 : Ax Z h113 a1 .long [(.long v0), (.long v1), (.long v2), (.long v3)] := A1.ext E113
        have g_b113 : n0 ≤ b113 := Nat.le_trans Z0 (Nat.le_of_eq gq113.symm)
        have sz_b113 : h0.size ≤ b113 := Nat.le_trans (Keep.refl h0 []).1 (Nat.le_of_eq gq113.symm)
        have Z113 : n0 ≤ h113.size := Nat.le_trans Z0 E113.1
        have K113 : Keep h0 h113 [] := (Keep.refl h0 []).ext E113
        have f116 : Ax Z h113 b113 .long [(.long (0 : Int64)), (.long (0 : Int64))] := Ax.new (ty := .long) (i := 2) A113 (by decide)
        refine Done.step st113 ?_
        show Done p e below s _ _ _ (T113.setTop (mkF m 31 #[.val (.ref a1), .val (.int p2)] [(.ref b113)]))
        refine Done.step (fun t k => XS.dup X113.here hx rfl (hb hby d2_31) rfl rfl k) ?_
        show Done p e below s _ _ _ (T113.setTop (mkF m 32 #[.val (.ref a1), .val (.int p2)] [(.ref b113), (.ref b113)]))
        refine Done.step (fun t k => XS.iconst X113.here hx rfl (hb hby d2_32) k) ?_
        show Done p e below s _ _ _ (T113.setTop (mkF m 33 #[.val (.ref a1), .val (.int p2)] [(.int (0 : Int32)), (.ref b113), (.ref b113)]))
        refine Done.step (fun t k => XS.aloadN X113.here hx rfl (hb hby d2_33) rfl rfl k) ?_
        show Done p e below s _ _ _ (T113.setTop (mkF m 34 #[.val (.ref a1), .val (.int p2)] [(.ref a1), (.int (0 : Int32)), (.ref b113), (.ref b113)]))
        refine Done.step (fun t k => XS.iconst X113.here hx rfl (hb hby d2_34) k) ?_
        show Done p e below s _ _ _ (T113.setTop (mkF m 35 #[.val (.ref a1), .val (.int p2)] [(.int (0 : Int32)), (.ref a1), (.int (0 : Int32)), (.ref b113), (.ref b113)]))
        refine Done.step (ldJ X113 hx hZ e113 f115 (j := (0 : Int32)) (x := (.long v0)) (by decide) rfl (g := (mkF m 35 #[.val (.ref a1), .val (.int p2)] [(.int (0 : Int32)), (.ref a1), (.int (0 : Int32)), (.ref b113), (.ref b113)])) rfl rfl (hb hby d2_35)) ?_
        show Done p e below s _ _ _ (T113.setTop (mkF m 36 #[.val (.ref a1), .val (.int p2)] [(.long v0), (.int (0 : Int32)), (.ref b113), (.ref b113)]))
        obtain ⟨T117, h117, X117, e117, W117, A117, st117⟩ := stoJ X113 hx hZ e113 f116 (j := (0 : Int32)) (by decide) (i := 0) (by decide) (Nat.le_of_ble_eq_true rfl) (g := (mkF m 36 #[.val (.ref a1), .val (.int p2)] [(.long v0), (.int (0 : Int32)), (.ref b113), (.ref b113)])) rfl rfl (hb hby d2_36)
        have f118 : Ax Z h117 a1 .long [(.long v0), (.long v1), (.long v2), (.long v3)] := f115.other W117 ne114
        have f119 : Exa Z h117 b113 "[J" := B113.wr W117
        have f120 : Ax Z h117 b113 .long [(.long v0), (.long (0 : Int64))] := A117
        have Z117 : n0 ≤ h117.size := Nat.le_trans Z113 (Keep.of_wr W117).1
        have N117 := Fr.snoc X117 N0 g_b113
        have K117 : Keep h0 h117 [] := K113.wr W117 (Or.inr sz_b113)
        refine Done.step st117 ?_
        show Done p e below s _ _ _ (T117.setTop (mkF m 37 #[.val (.ref a1), .val (.int p2)] [(.ref b113)]))
        refine Done.step (fun t k => XS.dup X117.here hx rfl (hb hby d2_37) rfl rfl k) ?_
        show Done p e below s _ _ _ (T117.setTop (mkF m 38 #[.val (.ref a1), .val (.int p2)] [(.ref b113), (.ref b113)]))
        refine Done.step (fun t k => XS.iconst X117.here hx rfl (hb hby d2_38) k) ?_
        show Done p e below s _ _ _ (T117.setTop (mkF m 39 #[.val (.ref a1), .val (.int p2)] [(.int (1 : Int32)), (.ref b113), (.ref b113)]))
        refine Done.step (fun t k => XS.aloadN X117.here hx rfl (hb hby d2_39) rfl rfl k) ?_
        show Done p e below s _ _ _ (T117.setTop (mkF m 40 #[.val (.ref a1), .val (.int p2)] [(.ref a1), (.int (1 : Int32)), (.ref b113), (.ref b113)]))
        refine Done.step (fun t k => XS.iconst X117.here hx rfl (hb hby d2_40) k) ?_
        show Done p e below s _ _ _ (T117.setTop (mkF m 41 #[.val (.ref a1), .val (.int p2)] [(.int (1 : Int32)), (.ref a1), (.int (1 : Int32)), (.ref b113), (.ref b113)]))
        refine Done.step (ldJ X117 hx hZ e117 f118 (j := (1 : Int32)) (x := (.long v1)) (by decide) rfl (g := (mkF m 41 #[.val (.ref a1), .val (.int p2)] [(.int (1 : Int32)), (.ref a1), (.int (1 : Int32)), (.ref b113), (.ref b113)])) rfl rfl (hb hby d2_41)) ?_
        show Done p e below s _ _ _ (T117.setTop (mkF m 42 #[.val (.ref a1), .val (.int p2)] [(.long v1), (.int (1 : Int32)), (.ref b113), (.ref b113)]))
        obtain ⟨T121, h121, X121, e121, W121, A121, st121⟩ := stoJ X117 hx hZ e117 f120 (j := (1 : Int32)) (by decide) (i := 1) (by decide) (Nat.le_of_ble_eq_true rfl) (g := (mkF m 42 #[.val (.ref a1), .val (.int p2)] [(.long v1), (.int (1 : Int32)), (.ref b113), (.ref b113)])) rfl rfl (hb hby d2_42)
        have f122 : Ax Z h121 a1 .long [(.long v0), (.long v1), (.long v2), (.long v3)] := f118.other W121 ne114
        have f123 : Exa Z h121 b113 "[J" := f119.wr W121
        have f124 : Ax Z h121 b113 .long [(.long v0), (.long v1)] := A121
        have Z121 : n0 ≤ h121.size := Nat.le_trans Z117 (Keep.of_wr W121).1
        have N121 := Fr.snoc X121 N117 g_b113
        have K121 : Keep h0 h121 [] := K117.wr W121 (Or.inr sz_b113)
        refine Done.step st121 ?_
        show Done p e below s _ _ _ (T121.setTop (mkF m 43 #[.val (.ref a1), .val (.int p2)] [(.ref b113)]))
        exact Done.ref X121 hx hlk hret rfl rfl rfl (hb hby d2_43) (by decide) (by decide) ⟨b113, rfl, N121, (by rw [e121]; exact ⟨K121, by rw [show PFX p2 v0 v1 v2 v3 = [v0, v1] from by unfold PFX; rw [if_neg c1, if_neg c2, if_pos c3]]; exact f124, f123, sz_b113⟩)⟩
      · refine Done.step (fun t k => XS.icmpYes X0.here hx rfl (pc0 := 25) (pc' := 44) rfl (hb hby d2_25) rfl (feq c3).2 (by decide) (by decide) k) ?_
        show Done p e below s _ _ _ (s₁.setTop (mkF m 44 #[.val (.ref a1), .val (.int p2)] []))
        refine Done.step (fun t k => XS.iloadN X0.here hx rfl (hb hby d2_44) rfl k) ?_
        show Done p e below s _ _ _ (s₁.setTop (mkF m 45 #[.val (.ref a1), .val (.int p2)] [(.int p2)]))
        refine Done.step (fun t k => XS.iconst X0.here hx rfl (hb hby d2_45) k) ?_
        show Done p e below s _ _ _ (s₁.setTop (mkF m 46 #[.val (.ref a1), .val (.int p2)] [(.int (3 : Int32)), (.int p2)]))
        by_cases c4 : p2 = (3 : Int32)
        · refine Done.step (fun t k => XS.icmpNo X0.here hx rfl (hb hby d2_46) rfl (teq c4).2 k) ?_
          show Done p e below s _ _ _ (s₁.setTop (mkF m 49 #[.val (.ref a1), .val (.int p2)] []))
          refine Done.step (fun t k => XS.iconst X0.here hx rfl (hb hby d2_49) k) ?_
          show Done p e below s _ _ _ (s₁.setTop (mkF m 50 #[.val (.ref a1), .val (.int p2)] [(.int (3 : Int32))]))
          obtain ⟨T125, h125, k125, X125, e125, E125, A125, B125, st125⟩ := newPE X0 hx hZ (hw _ (List.mem_of_getElem? (i := 0) rfl)) e0 (g := (mkF m 50 #[.val (.ref a1), .val (.int p2)] [(.int (3 : Int32))])) rfl (hb hby d2_50) rfl (by decide) (cap := 3) (by decide) (by decide) (by decide) (by decide) (ad := "[J") (by decide)
          obtain ⟨b125, gq125⟩ : ∃ z, z = h0.size := ⟨_, rfl⟩
          rw [← gq125] at A125 B125 st125
          have ne126 : a1 ≠ b125 := Nat.ne_of_lt (Nat.lt_of_lt_of_le A1.lt (Nat.le_of_eq gq125.symm))
          have f127 : Ax Z h125 a1 .long [(.long v0), (.long v1), (.long v2), (.long v3)] := A1.ext E125
          have g_b125 : n0 ≤ b125 := Nat.le_trans Z0 (Nat.le_of_eq gq125.symm)
          have sz_b125 : h0.size ≤ b125 := Nat.le_trans (Keep.refl h0 []).1 (Nat.le_of_eq gq125.symm)
          have Z125 : n0 ≤ h125.size := Nat.le_trans Z0 E125.1
          have K125 : Keep h0 h125 [] := (Keep.refl h0 []).ext E125
          have f128 : Ax Z h125 b125 .long [(.long (0 : Int64)), (.long (0 : Int64)), (.long (0 : Int64))] := Ax.new (ty := .long) (i := 3) A125 (by decide)
          refine Done.step st125 ?_
          show Done p e below s _ _ _ (T125.setTop (mkF m 52 #[.val (.ref a1), .val (.int p2)] [(.ref b125)]))
          refine Done.step (fun t k => XS.dup X125.here hx rfl (hb hby d2_52) rfl rfl k) ?_
          show Done p e below s _ _ _ (T125.setTop (mkF m 53 #[.val (.ref a1), .val (.int p2)] [(.ref b125), (.ref b125)]))
          refine Done.step (fun t k => XS.iconst X125.here hx rfl (hb hby d2_53) k) ?_
          show Done p e below s _ _ _ (T125.setTop (mkF m 54 #[.val (.ref a1), .val (.int p2)] [(.int (0 : Int32)), (.ref b125), (.ref b125)]))
          refine Done.step (fun t k => XS.aloadN X125.here hx rfl (hb hby d2_54) rfl rfl k) ?_
          show Done p e below s _ _ _ (T125.setTop (mkF m 55 #[.val (.ref a1), .val (.int p2)] [(.ref a1), (.int (0 : Int32)), (.ref b125), (.ref b125)]))
          refine Done.step (fun t k => XS.iconst X125.here hx rfl (hb hby d2_55) k) ?_
          show Done p e below s _ _ _ (T125.setTop (mkF m 56 #[.val (.ref a1), .val (.int p2)] [(.int (0 : Int32)), (.ref a1), (.int (0 : Int32)), (.ref b125), (.ref b125)]))
          refine Done.step (ldJ X125 hx hZ e125 f127 (j := (0 : Int32)) (x := (.long v0)) (by decide) rfl (g := (mkF m 56 #[.val (.ref a1), .val (.int p2)] [(.int (0 : Int32)), (.ref a1), (.int (0 : Int32)), (.ref b125), (.ref b125)])) rfl rfl (hb hby d2_56)) ?_
          show Done p e below s _ _ _ (T125.setTop (mkF m 57 #[.val (.ref a1), .val (.int p2)] [(.long v0), (.int (0 : Int32)), (.ref b125), (.ref b125)]))
          obtain ⟨T129, h129, X129, e129, W129, A129, st129⟩ := stoJ X125 hx hZ e125 f128 (j := (0 : Int32)) (by decide) (i := 0) (by decide) (Nat.le_of_ble_eq_true rfl) (g := (mkF m 57 #[.val (.ref a1), .val (.int p2)] [(.long v0), (.int (0 : Int32)), (.ref b125), (.ref b125)])) rfl rfl (hb hby d2_57)
          have f130 : Ax Z h129 a1 .long [(.long v0), (.long v1), (.long v2), (.long v3)] := f127.other W129 ne126
          have f131 : Exa Z h129 b125 "[J" := B125.wr W129
          have f132 : Ax Z h129 b125 .long [(.long v0), (.long (0 : Int64)), (.long (0 : Int64))] := A129
          have Z129 : n0 ≤ h129.size := Nat.le_trans Z125 (Keep.of_wr W129).1
          have N129 := Fr.snoc X129 N0 g_b125
          have K129 : Keep h0 h129 [] := K125.wr W129 (Or.inr sz_b125)
          refine Done.step st129 ?_
          show Done p e below s _ _ _ (T129.setTop (mkF m 58 #[.val (.ref a1), .val (.int p2)] [(.ref b125)]))
          refine Done.step (fun t k => XS.dup X129.here hx rfl (hb hby d2_58) rfl rfl k) ?_
          show Done p e below s _ _ _ (T129.setTop (mkF m 59 #[.val (.ref a1), .val (.int p2)] [(.ref b125), (.ref b125)]))
          refine Done.step (fun t k => XS.iconst X129.here hx rfl (hb hby d2_59) k) ?_
          show Done p e below s _ _ _ (T129.setTop (mkF m 60 #[.val (.ref a1), .val (.int p2)] [(.int (1 : Int32)), (.ref b125), (.ref b125)]))
          refine Done.step (fun t k => XS.aloadN X129.here hx rfl (hb hby d2_60) rfl rfl k) ?_
          show Done p e below s _ _ _ (T129.setTop (mkF m 61 #[.val (.ref a1), .val (.int p2)] [(.ref a1), (.int (1 : Int32)), (.ref b125), (.ref b125)]))
          refine Done.step (fun t k => XS.iconst X129.here hx rfl (hb hby d2_61) k) ?_
          show Done p e below s _ _ _ (T129.setTop (mkF m 62 #[.val (.ref a1), .val (.int p2)] [(.int (1 : Int32)), (.ref a1), (.int (1 : Int32)), (.ref b125), (.ref b125)]))
          refine Done.step (ldJ X129 hx hZ e129 f130 (j := (1 : Int32)) (x := (.long v1)) (by decide) rfl (g := (mkF m 62 #[.val (.ref a1), .val (.int p2)] [(.int (1 : Int32)), (.ref a1), (.int (1 : Int32)), (.ref b125), (.ref b125)])) rfl rfl (hb hby d2_62)) ?_
          show Done p e below s _ _ _ (T129.setTop (mkF m 63 #[.val (.ref a1), .val (.int p2)] [(.long v1), (.int (1 : Int32)), (.ref b125), (.ref b125)]))
          obtain ⟨T133, h133, X133, e133, W133, A133, st133⟩ := stoJ X129 hx hZ e129 f132 (j := (1 : Int32)) (by decide) (i := 1) (by decide) (Nat.le_of_ble_eq_true rfl) (g := (mkF m 63 #[.val (.ref a1), .val (.int p2)] [(.long v1), (.int (1 : Int32)), (.ref b125), (.ref b125)])) rfl rfl (hb hby d2_63)
          have f134 : Ax Z h133 a1 .long [(.long v0), (.long v1), (.long v2), (.long v3)] := f130.other W133 ne126
          have f135 : Exa Z h133 b125 "[J" := f131.wr W133
          have f136 : Ax Z h133 b125 .long [(.long v0), (.long v1), (.long (0 : Int64))] := A133
          have Z133 : n0 ≤ h133.size := Nat.le_trans Z129 (Keep.of_wr W133).1
          have N133 := Fr.snoc X133 N129 g_b125
          have K133 : Keep h0 h133 [] := K129.wr W133 (Or.inr sz_b125)
          refine Done.step st133 ?_
          show Done p e below s _ _ _ (T133.setTop (mkF m 64 #[.val (.ref a1), .val (.int p2)] [(.ref b125)]))
          refine Done.step (fun t k => XS.dup X133.here hx rfl (hb hby d2_64) rfl rfl k) ?_
          show Done p e below s _ _ _ (T133.setTop (mkF m 65 #[.val (.ref a1), .val (.int p2)] [(.ref b125), (.ref b125)]))
          refine Done.step (fun t k => XS.iconst X133.here hx rfl (hb hby d2_65) k) ?_
          show Done p e below s _ _ _ (T133.setTop (mkF m 66 #[.val (.ref a1), .val (.int p2)] [(.int (2 : Int32)), (.ref b125), (.ref b125)]))
          refine Done.step (fun t k => XS.aloadN X133.here hx rfl (hb hby d2_66) rfl rfl k) ?_
          show Done p e below s _ _ _ (T133.setTop (mkF m 67 #[.val (.ref a1), .val (.int p2)] [(.ref a1), (.int (2 : Int32)), (.ref b125), (.ref b125)]))
          refine Done.step (fun t k => XS.iconst X133.here hx rfl (hb hby d2_67) k) ?_
          show Done p e below s _ _ _ (T133.setTop (mkF m 68 #[.val (.ref a1), .val (.int p2)] [(.int (2 : Int32)), (.ref a1), (.int (2 : Int32)), (.ref b125), (.ref b125)]))
          refine Done.step (ldJ X133 hx hZ e133 f134 (j := (2 : Int32)) (x := (.long v2)) (by decide) rfl (g := (mkF m 68 #[.val (.ref a1), .val (.int p2)] [(.int (2 : Int32)), (.ref a1), (.int (2 : Int32)), (.ref b125), (.ref b125)])) rfl rfl (hb hby d2_68)) ?_
          show Done p e below s _ _ _ (T133.setTop (mkF m 69 #[.val (.ref a1), .val (.int p2)] [(.long v2), (.int (2 : Int32)), (.ref b125), (.ref b125)]))
          obtain ⟨T137, h137, X137, e137, W137, A137, st137⟩ := stoJ X133 hx hZ e133 f136 (j := (2 : Int32)) (by decide) (i := 2) (by decide) (Nat.le_of_ble_eq_true rfl) (g := (mkF m 69 #[.val (.ref a1), .val (.int p2)] [(.long v2), (.int (2 : Int32)), (.ref b125), (.ref b125)])) rfl rfl (hb hby d2_69)
          have f138 : Ax Z h137 a1 .long [(.long v0), (.long v1), (.long v2), (.long v3)] := f134.other W137 ne126
          have f139 : Exa Z h137 b125 "[J" := f135.wr W137
          have f140 : Ax Z h137 b125 .long [(.long v0), (.long v1), (.long v2)] := A137
          have Z137 : n0 ≤ h137.size := Nat.le_trans Z133 (Keep.of_wr W137).1
          have N137 := Fr.snoc X137 N133 g_b125
          have K137 : Keep h0 h137 [] := K133.wr W137 (Or.inr sz_b125)
          refine Done.step st137 ?_
          show Done p e below s _ _ _ (T137.setTop (mkF m 70 #[.val (.ref a1), .val (.int p2)] [(.ref b125)]))
          exact Done.ref X137 hx hlk hret rfl rfl rfl (hb hby d2_70) (by decide) (by decide) ⟨b125, rfl, N137, (by rw [e137]; exact ⟨K137, by rw [show PFX p2 v0 v1 v2 v3 = [v0, v1, v2] from by unfold PFX; rw [if_neg c1, if_neg c2, if_neg c3, if_pos c4]]; exact f140, f139, sz_b125⟩)⟩
        · refine Done.step (fun t k => XS.icmpYes X0.here hx rfl (pc0 := 46) (pc' := 71) rfl (hb hby d2_46) rfl (feq c4).2 (by decide) (by decide) k) ?_
          show Done p e below s _ _ _ (s₁.setTop (mkF m 71 #[.val (.ref a1), .val (.int p2)] []))
          refine Done.step (fun t k => XS.iconst X0.here hx rfl (hb hby d2_71) k) ?_
          show Done p e below s _ _ _ (s₁.setTop (mkF m 72 #[.val (.ref a1), .val (.int p2)] [(.int (4 : Int32))]))
          obtain ⟨T141, h141, k141, X141, e141, E141, A141, B141, st141⟩ := newPE X0 hx hZ (hw _ (List.mem_of_getElem? (i := 0) rfl)) e0 (g := (mkF m 72 #[.val (.ref a1), .val (.int p2)] [(.int (4 : Int32))])) rfl (hb hby d2_72) rfl (by decide) (cap := 4) (by decide) (by decide) (by decide) (by decide) (ad := "[J") (by decide)
          obtain ⟨b141, gq141⟩ : ∃ z, z = h0.size := ⟨_, rfl⟩
          rw [← gq141] at A141 B141 st141
          have ne142 : a1 ≠ b141 := Nat.ne_of_lt (Nat.lt_of_lt_of_le A1.lt (Nat.le_of_eq gq141.symm))
          have f143 : Ax Z h141 a1 .long [(.long v0), (.long v1), (.long v2), (.long v3)] := A1.ext E141
          have g_b141 : n0 ≤ b141 := Nat.le_trans Z0 (Nat.le_of_eq gq141.symm)
          have sz_b141 : h0.size ≤ b141 := Nat.le_trans (Keep.refl h0 []).1 (Nat.le_of_eq gq141.symm)
          have Z141 : n0 ≤ h141.size := Nat.le_trans Z0 E141.1
          have K141 : Keep h0 h141 [] := (Keep.refl h0 []).ext E141
          have f144 : Ax Z h141 b141 .long [(.long (0 : Int64)), (.long (0 : Int64)), (.long (0 : Int64)), (.long (0 : Int64))] := Ax.new (ty := .long) (i := 4) A141 (by decide)
          refine Done.step st141 ?_
          show Done p e below s _ _ _ (T141.setTop (mkF m 74 #[.val (.ref a1), .val (.int p2)] [(.ref b141)]))
          refine Done.step (fun t k => XS.dup X141.here hx rfl (hb hby d2_74) rfl rfl k) ?_
          show Done p e below s _ _ _ (T141.setTop (mkF m 75 #[.val (.ref a1), .val (.int p2)] [(.ref b141), (.ref b141)]))
          refine Done.step (fun t k => XS.iconst X141.here hx rfl (hb hby d2_75) k) ?_
          show Done p e below s _ _ _ (T141.setTop (mkF m 76 #[.val (.ref a1), .val (.int p2)] [(.int (0 : Int32)), (.ref b141), (.ref b141)]))
          refine Done.step (fun t k => XS.aloadN X141.here hx rfl (hb hby d2_76) rfl rfl k) ?_
          show Done p e below s _ _ _ (T141.setTop (mkF m 77 #[.val (.ref a1), .val (.int p2)] [(.ref a1), (.int (0 : Int32)), (.ref b141), (.ref b141)]))
          refine Done.step (fun t k => XS.iconst X141.here hx rfl (hb hby d2_77) k) ?_
          show Done p e below s _ _ _ (T141.setTop (mkF m 78 #[.val (.ref a1), .val (.int p2)] [(.int (0 : Int32)), (.ref a1), (.int (0 : Int32)), (.ref b141), (.ref b141)]))
          refine Done.step (ldJ X141 hx hZ e141 f143 (j := (0 : Int32)) (x := (.long v0)) (by decide) rfl (g := (mkF m 78 #[.val (.ref a1), .val (.int p2)] [(.int (0 : Int32)), (.ref a1), (.int (0 : Int32)), (.ref b141), (.ref b141)])) rfl rfl (hb hby d2_78)) ?_
          show Done p e below s _ _ _ (T141.setTop (mkF m 79 #[.val (.ref a1), .val (.int p2)] [(.long v0), (.int (0 : Int32)), (.ref b141), (.ref b141)]))
          obtain ⟨T145, h145, X145, e145, W145, A145, st145⟩ := stoJ X141 hx hZ e141 f144 (j := (0 : Int32)) (by decide) (i := 0) (by decide) (Nat.le_of_ble_eq_true rfl) (g := (mkF m 79 #[.val (.ref a1), .val (.int p2)] [(.long v0), (.int (0 : Int32)), (.ref b141), (.ref b141)])) rfl rfl (hb hby d2_79)
          have f146 : Ax Z h145 a1 .long [(.long v0), (.long v1), (.long v2), (.long v3)] := f143.other W145 ne142
          have f147 : Exa Z h145 b141 "[J" := B141.wr W145
          have f148 : Ax Z h145 b141 .long [(.long v0), (.long (0 : Int64)), (.long (0 : Int64)), (.long (0 : Int64))] := A145
          have Z145 : n0 ≤ h145.size := Nat.le_trans Z141 (Keep.of_wr W145).1
          have N145 := Fr.snoc X145 N0 g_b141
          have K145 : Keep h0 h145 [] := K141.wr W145 (Or.inr sz_b141)
          refine Done.step st145 ?_
          show Done p e below s _ _ _ (T145.setTop (mkF m 80 #[.val (.ref a1), .val (.int p2)] [(.ref b141)]))
          refine Done.step (fun t k => XS.dup X145.here hx rfl (hb hby d2_80) rfl rfl k) ?_
          show Done p e below s _ _ _ (T145.setTop (mkF m 81 #[.val (.ref a1), .val (.int p2)] [(.ref b141), (.ref b141)]))
          refine Done.step (fun t k => XS.iconst X145.here hx rfl (hb hby d2_81) k) ?_
          show Done p e below s _ _ _ (T145.setTop (mkF m 82 #[.val (.ref a1), .val (.int p2)] [(.int (1 : Int32)), (.ref b141), (.ref b141)]))
          refine Done.step (fun t k => XS.aloadN X145.here hx rfl (hb hby d2_82) rfl rfl k) ?_
          show Done p e below s _ _ _ (T145.setTop (mkF m 83 #[.val (.ref a1), .val (.int p2)] [(.ref a1), (.int (1 : Int32)), (.ref b141), (.ref b141)]))
          refine Done.step (fun t k => XS.iconst X145.here hx rfl (hb hby d2_83) k) ?_
          show Done p e below s _ _ _ (T145.setTop (mkF m 84 #[.val (.ref a1), .val (.int p2)] [(.int (1 : Int32)), (.ref a1), (.int (1 : Int32)), (.ref b141), (.ref b141)]))
          refine Done.step (ldJ X145 hx hZ e145 f146 (j := (1 : Int32)) (x := (.long v1)) (by decide) rfl (g := (mkF m 84 #[.val (.ref a1), .val (.int p2)] [(.int (1 : Int32)), (.ref a1), (.int (1 : Int32)), (.ref b141), (.ref b141)])) rfl rfl (hb hby d2_84)) ?_
          show Done p e below s _ _ _ (T145.setTop (mkF m 85 #[.val (.ref a1), .val (.int p2)] [(.long v1), (.int (1 : Int32)), (.ref b141), (.ref b141)]))
          obtain ⟨T149, h149, X149, e149, W149, A149, st149⟩ := stoJ X145 hx hZ e145 f148 (j := (1 : Int32)) (by decide) (i := 1) (by decide) (Nat.le_of_ble_eq_true rfl) (g := (mkF m 85 #[.val (.ref a1), .val (.int p2)] [(.long v1), (.int (1 : Int32)), (.ref b141), (.ref b141)])) rfl rfl (hb hby d2_85)
          have f150 : Ax Z h149 a1 .long [(.long v0), (.long v1), (.long v2), (.long v3)] := f146.other W149 ne142
          have f151 : Exa Z h149 b141 "[J" := f147.wr W149
          have f152 : Ax Z h149 b141 .long [(.long v0), (.long v1), (.long (0 : Int64)), (.long (0 : Int64))] := A149
          have Z149 : n0 ≤ h149.size := Nat.le_trans Z145 (Keep.of_wr W149).1
          have N149 := Fr.snoc X149 N145 g_b141
          have K149 : Keep h0 h149 [] := K145.wr W149 (Or.inr sz_b141)
          refine Done.step st149 ?_
          show Done p e below s _ _ _ (T149.setTop (mkF m 86 #[.val (.ref a1), .val (.int p2)] [(.ref b141)]))
          refine Done.step (fun t k => XS.dup X149.here hx rfl (hb hby d2_86) rfl rfl k) ?_
          show Done p e below s _ _ _ (T149.setTop (mkF m 87 #[.val (.ref a1), .val (.int p2)] [(.ref b141), (.ref b141)]))
          refine Done.step (fun t k => XS.iconst X149.here hx rfl (hb hby d2_87) k) ?_
          show Done p e below s _ _ _ (T149.setTop (mkF m 88 #[.val (.ref a1), .val (.int p2)] [(.int (2 : Int32)), (.ref b141), (.ref b141)]))
          refine Done.step (fun t k => XS.aloadN X149.here hx rfl (hb hby d2_88) rfl rfl k) ?_
          show Done p e below s _ _ _ (T149.setTop (mkF m 89 #[.val (.ref a1), .val (.int p2)] [(.ref a1), (.int (2 : Int32)), (.ref b141), (.ref b141)]))
          refine Done.step (fun t k => XS.iconst X149.here hx rfl (hb hby d2_89) k) ?_
          show Done p e below s _ _ _ (T149.setTop (mkF m 90 #[.val (.ref a1), .val (.int p2)] [(.int (2 : Int32)), (.ref a1), (.int (2 : Int32)), (.ref b141), (.ref b141)]))
          refine Done.step (ldJ X149 hx hZ e149 f150 (j := (2 : Int32)) (x := (.long v2)) (by decide) rfl (g := (mkF m 90 #[.val (.ref a1), .val (.int p2)] [(.int (2 : Int32)), (.ref a1), (.int (2 : Int32)), (.ref b141), (.ref b141)])) rfl rfl (hb hby d2_90)) ?_
          show Done p e below s _ _ _ (T149.setTop (mkF m 91 #[.val (.ref a1), .val (.int p2)] [(.long v2), (.int (2 : Int32)), (.ref b141), (.ref b141)]))
          obtain ⟨T153, h153, X153, e153, W153, A153, st153⟩ := stoJ X149 hx hZ e149 f152 (j := (2 : Int32)) (by decide) (i := 2) (by decide) (Nat.le_of_ble_eq_true rfl) (g := (mkF m 91 #[.val (.ref a1), .val (.int p2)] [(.long v2), (.int (2 : Int32)), (.ref b141), (.ref b141)])) rfl rfl (hb hby d2_91)
          have f154 : Ax Z h153 a1 .long [(.long v0), (.long v1), (.long v2), (.long v3)] := f150.other W153 ne142
          have f155 : Exa Z h153 b141 "[J" := f151.wr W153
          have f156 : Ax Z h153 b141 .long [(.long v0), (.long v1), (.long v2), (.long (0 : Int64))] := A153
          have Z153 : n0 ≤ h153.size := Nat.le_trans Z149 (Keep.of_wr W153).1
          have N153 := Fr.snoc X153 N149 g_b141
          have K153 : Keep h0 h153 [] := K149.wr W153 (Or.inr sz_b141)
          refine Done.step st153 ?_
          show Done p e below s _ _ _ (T153.setTop (mkF m 92 #[.val (.ref a1), .val (.int p2)] [(.ref b141)]))
          refine Done.step (fun t k => XS.dup X153.here hx rfl (hb hby d2_92) rfl rfl k) ?_
          show Done p e below s _ _ _ (T153.setTop (mkF m 93 #[.val (.ref a1), .val (.int p2)] [(.ref b141), (.ref b141)]))
          refine Done.step (fun t k => XS.iconst X153.here hx rfl (hb hby d2_93) k) ?_
          show Done p e below s _ _ _ (T153.setTop (mkF m 94 #[.val (.ref a1), .val (.int p2)] [(.int (3 : Int32)), (.ref b141), (.ref b141)]))
          refine Done.step (fun t k => XS.aloadN X153.here hx rfl (hb hby d2_94) rfl rfl k) ?_
          show Done p e below s _ _ _ (T153.setTop (mkF m 95 #[.val (.ref a1), .val (.int p2)] [(.ref a1), (.int (3 : Int32)), (.ref b141), (.ref b141)]))
          refine Done.step (fun t k => XS.iconst X153.here hx rfl (hb hby d2_95) k) ?_
          show Done p e below s _ _ _ (T153.setTop (mkF m 96 #[.val (.ref a1), .val (.int p2)] [(.int (3 : Int32)), (.ref a1), (.int (3 : Int32)), (.ref b141), (.ref b141)]))
          refine Done.step (ldJ X153 hx hZ e153 f154 (j := (3 : Int32)) (x := (.long v3)) (by decide) rfl (g := (mkF m 96 #[.val (.ref a1), .val (.int p2)] [(.int (3 : Int32)), (.ref a1), (.int (3 : Int32)), (.ref b141), (.ref b141)])) rfl rfl (hb hby d2_96)) ?_
          show Done p e below s _ _ _ (T153.setTop (mkF m 97 #[.val (.ref a1), .val (.int p2)] [(.long v3), (.int (3 : Int32)), (.ref b141), (.ref b141)]))
          obtain ⟨T157, h157, X157, e157, W157, A157, st157⟩ := stoJ X153 hx hZ e153 f156 (j := (3 : Int32)) (by decide) (i := 3) (by decide) (Nat.le_of_ble_eq_true rfl) (g := (mkF m 97 #[.val (.ref a1), .val (.int p2)] [(.long v3), (.int (3 : Int32)), (.ref b141), (.ref b141)])) rfl rfl (hb hby d2_97)
          have f158 : Ax Z h157 a1 .long [(.long v0), (.long v1), (.long v2), (.long v3)] := f154.other W157 ne142
          have f159 : Exa Z h157 b141 "[J" := f155.wr W157
          have f160 : Ax Z h157 b141 .long [(.long v0), (.long v1), (.long v2), (.long v3)] := A157
          have Z157 : n0 ≤ h157.size := Nat.le_trans Z153 (Keep.of_wr W157).1
          have N157 := Fr.snoc X157 N153 g_b141
          have K157 : Keep h0 h157 [] := K153.wr W157 (Or.inr sz_b141)
          refine Done.step st157 ?_
          show Done p e below s _ _ _ (T157.setTop (mkF m 98 #[.val (.ref a1), .val (.int p2)] [(.ref b141)]))
          exact Done.ref X157 hx hlk hret rfl rfl rfl (hb hby d2_98) (by decide) (by decide) ⟨b141, rfl, N157, (by rw [e157]; exact ⟨K157, by rw [show PFX p2 v0 v1 v2 v3 = [v0, v1, v2, v3] from by unfold PFX; rw [if_neg c1, if_neg c2, if_neg c3, if_neg c4]]; exact f160, f159, sz_b141⟩)⟩
def Up (xs : List Int64) (t : Int64) (k : Int32) : Prop := 0 ≤ k.toInt ∧ k.toInt ≤ xs.length ∧ (∀ (j : Nat) (x : Int64), xs[j]? = some x → (j : Int) < k.toInt → x.toInt ≤ t.toInt) ∧ ∀ (j : Nat) (x : Int64), xs[j]? = some x → k.toInt ≤ (j : Int) → t.toInt < x.toInt
def Asc (xs : List Int64) : Prop := ∀ (i j : Nat) (x y : Int64), xs[i]? = some x → xs[j]? = some y → i ≤ j → x.toInt ≤ y.toInt
def Pos (xs : List Int64) : Prop := ∀ (i : Nat) (x : Int64), xs[i]? = some x → 0 ≤ x.toInt
theorem own_mid (i j : Int32) (h1 : 0 ≤ i.toInt) (h2 : i.toInt ≤ j.toInt) (h3 : j.toInt < 1073741824) : (((i + j).toUInt32 >>> ((1 : Int32) &&& 31).toUInt32).toInt32).toInt = (i.toInt + j.toInt) / 2 := by
  have a := c_iushr (i + j) (1 : Int32) 1 (by decide) (by decide)
  have b := c_iadd i j
  have r := rng32 (i + j)
  have e : (i + j).toInt = i.toInt + j.toInt := by omega
  rw [a, e]
  omega
theorem Up.uniq {xs : List Int64} {t : Int64} {k e : Int32} (h1 : Up xs t k) (h2 : Up xs t e) : k = e := by
  obtain ⟨a1, a2, a3, a4⟩ := h1
  obtain ⟨b1, b2, b3, b4⟩ := h2
  apply Int32.toInt_inj.mp
  by_cases q : k.toInt < e.toInt
  · obtain ⟨x, hx⟩ : ∃ x, xs[k.toInt.toNat]? = some x := ⟨_, List.getElem?_eq_getElem (by omega)⟩
    have := a4 _ _ hx (by omega); have := b3 _ _ hx (by omega); omega
  · by_cases q' : e.toInt < k.toInt
    · obtain ⟨x, hx⟩ : ∃ x, xs[e.toInt.toNat]? = some x := ⟨_, List.getElem?_eq_getElem (by omega)⟩
      have := b4 _ _ hx (by omega); have := a3 _ _ hx (by omega); omega
    · omega
theorem d3_14 : decode prog_33_method_1_code 14 = .ok (.iload_n 3, 1) := by decide +kernel
theorem d3_15 : decode prog_33_method_1_code 15 = .ok (.aload_n 2, 1) := by decide +kernel
theorem d3_16 : decode prog_33_method_1_code 16 = .ok (.arraylength, 1) := by decide +kernel
theorem d3_17 : decode prog_33_method_1_code 17 = .ok (.if_icmp .ge 70, 3) := by decide +kernel
theorem d3_20 : decode prog_33_method_1_code 20 = .ok (.aload_n 2, 1) := by decide +kernel
theorem d3_21 : decode prog_33_method_1_code 21 = .ok (.iload_n 3, 1) := by decide +kernel
theorem d3_22 : decode prog_33_method_1_code 22 = .ok (.laload, 1) := by decide +kernel
theorem d3_23 : decode prog_33_method_1_code 23 = .ok (.lconst 0, 1) := by decide +kernel
theorem d3_24 : decode prog_33_method_1_code 24 = .ok (.lcmp, 1) := by decide +kernel
theorem d3_25 : decode prog_33_method_1_code 25 = .ok (.ifCond .ge 19, 3) := by decide +kernel
theorem d3_44 : decode prog_33_method_1_code 44 = .ok (.iload_n 3, 1) := by decide +kernel
theorem d3_45 : decode prog_33_method_1_code 45 = .ok (.ifCond .le 36, 3) := by decide +kernel
theorem d3_48 : decode prog_33_method_1_code 48 = .ok (.aload_n 2, 1) := by decide +kernel
theorem d3_49 : decode prog_33_method_1_code 49 = .ok (.iload_n 3, 1) := by decide +kernel
theorem d3_50 : decode prog_33_method_1_code 50 = .ok (.laload, 1) := by decide +kernel
theorem d3_51 : decode prog_33_method_1_code 51 = .ok (.aload_n 2, 1) := by decide +kernel
theorem d3_52 : decode prog_33_method_1_code 52 = .ok (.iload_n 3, 1) := by decide +kernel
theorem d3_53 : decode prog_33_method_1_code 53 = .ok (.iconst 1, 1) := by decide +kernel
theorem d3_54 : decode prog_33_method_1_code 54 = .ok (.isub, 1) := by decide +kernel
theorem d3_55 : decode prog_33_method_1_code 55 = .ok (.laload, 1) := by decide +kernel
theorem d3_56 : decode prog_33_method_1_code 56 = .ok (.lcmp, 1) := by decide +kernel
theorem d3_57 : decode prog_33_method_1_code 57 = .ok (.ifCond .ge 24, 3) := by decide +kernel
theorem d3_81 : decode prog_33_method_1_code 81 = .ok (.iinc 3 1, 3) := by decide +kernel
theorem d3_84 : decode prog_33_method_1_code 84 = .ok (.goto (-70), 3) := by decide +kernel
theorem d3_87 : decode prog_33_method_1_code 87 = .ok (.aload_n 0, 1) := by decide +kernel
theorem d3_88 : decode prog_33_method_1_code 88 = .ok (.aload_n 2, 1) := by decide +kernel
theorem d3_89 : decode prog_33_method_1_code 89 = .ok (.putfield 25, 3) := by decide +kernel
theorem d3_92 : decode prog_33_method_1_code 92 = .ok (.return_, 1) := by decide +kernel
set_option maxRecDepth 65536 in
set_option maxHeartbeats 40000000 in
theorem lpc {p : Program} {l : Launch} {e : Env} {s : State} {m : MethodId} {args : Array Value} {below : List Frame} {meth : Method} {c : Code} {Z : State} {a0 : Array Value} {h0 : Heap} {n0 : Nat} {hO : Heap} (a1 a2 d2 : Addr) (n4 : Int32) (xs : List Int64)
    (hx : p.tables.exec = Jvm.exec) (hZ : Z.Warmed39 s.vm) (hw : ∀ d ∈ tables_1, d.before a0 Z = true) (hby : c.code = prog_33_method_1_code) (hml : c.maxLocals = 4) (hown : s.vm.findClass "com/example/upkeep/upkeep/core/PageChanges" = some m.cls) (hlk : meth.locks = false) (hret : meth.sig.returnType = (none : Option FieldType)) (hnm : meth.name = "<init>") (g1 : n0 ≤ a1) (K0 : Keep hO h0 [a1]) (E1 : Exa Z h0 a1 "com/example/upkeep/upkeep/core/PageChanges") (F1 : Fld Z h0 a1 "com/example/upkeep/upkeep/core/PageChanges" "changes" "[J" .null) (A2 : Ax Z h0 d2 .long (xs.map Value.long)) (ne12 : a1 ≠ d2) (szd : hO.size ≤ d2) (hn4 : xs.length.toInt32 = n4) (hnl : n4.toInt = xs.length) (hpx : Pos xs) (hasc : Asc xs) :
    ∀ (k : Nat) (T : State) (locs : List Loc) (i3 : Int32) (X0 : Stand p l e ({ frames := 1, cells := 1, slots := 4, locals := 14 } : Room) s m args below meth c T locs 1 4) (N0 : Fr n0 locs) (Z0 : n0 ≤ h0.size) (e0 : T.heap = h0) (hk : (n4.toInt - i3.toInt).toNat < k) (hi0 : 0 ≤ i3.toInt), Done p e below s (fun v h L => v = none ∧ Fr n0 L ∧ Keep hO h [a1] ∧ Exa Z h a1 "com/example/upkeep/upkeep/core/PageChanges" ∧ ∃ d : Addr, Fld Z h a1 "com/example/upkeep/upkeep/core/PageChanges" "changes" "[J" (.ref d) ∧ Ax Z h d .long (xs.map Value.long) ∧ hO.size ≤ d) ({ frames := 1, cells := 1, slots := 4, locals := 14 } : Room).cells ({ frames := 1, cells := 1, slots := 4, locals := 14 } : Room).slots (T.setTop (mkF m 14 #[.val (.ref a1), .val (.ref a2), .val (.ref d2), .val (.int i3)] [])) := by
  intro k
  induction k with
  | zero => intro T locs i3 X0 N0 Z0 e0 hk hi0; exact absurd hk (Nat.not_lt_zero _)
  | succ k ih =>
    intro T locs i3 X0 N0 Z0 e0 hk hi0
    show Done p e below s _ _ _ (T.setTop (mkF m 14 #[.val (.ref a1), .val (.ref a2), .val (.ref d2), .val (.int i3)] []))
    refine Done.step (fun t k => XS.iloadN X0.here hx rfl (hb hby d3_14) rfl k) ?_
    show Done p e below s _ _ _ (T.setTop (mkF m 15 #[.val (.ref a1), .val (.ref a2), .val (.ref d2), .val (.int i3)] [(.int i3)]))
    refine Done.step (fun t k => XS.aloadN X0.here hx rfl (hb hby d3_15) rfl rfl k) ?_
    show Done p e below s _ _ _ (T.setTop (mkF m 16 #[.val (.ref a1), .val (.ref a2), .val (.ref d2), .val (.int i3)] [(.ref d2), (.int i3)]))
    refine Done.step (lenA X0 hx hZ e0 A2 (n := n4) (by rw [List.length_map]; exact hn4) (g := (mkF m 16 #[.val (.ref a1), .val (.ref a2), .val (.ref d2), .val (.int i3)] [(.ref d2), (.int i3)])) rfl rfl (hb hby d3_16)) ?_
    show Done p e below s _ _ _ (T.setTop (mkF m 17 #[.val (.ref a1), .val (.ref a2), .val (.ref d2), .val (.int i3)] [(.int n4), (.int i3)]))
    by_cases c1 : i3 < n4
    · refine Done.step (fun t k => XS.icmpNo X0.here hx rfl (hb hby d3_17) rfl (tlt c1).2.1 k) ?_
      show Done p e below s _ _ _ (T.setTop (mkF m 20 #[.val (.ref a1), .val (.ref a2), .val (.ref d2), .val (.int i3)] []))
      refine Done.step (fun t k => XS.aloadN X0.here hx rfl (hb hby d3_20) rfl rfl k) ?_
      show Done p e below s _ _ _ (T.setTop (mkF m 21 #[.val (.ref a1), .val (.ref a2), .val (.ref d2), .val (.int i3)] [(.ref d2)]))
      refine Done.step (fun t k => XS.iloadN X0.here hx rfl (hb hby d3_21) rfl k) ?_
      show Done p e below s _ _ _ (T.setTop (mkF m 22 #[.val (.ref a1), .val (.ref a2), .val (.ref d2), .val (.int i3)] [(.int i3), (.ref d2)]))
      have hlt : i3.toInt < n4.toInt := Int32.lt_iff_toInt_lt.mp c1
      have hnn : ¬ i3 < 0 := by rw [Int32.lt_iff_toInt_lt]; show ¬ _ < (0 : Int); omega
      have hc : (i3.toNatClampNeg : Int) = i3.toInt := by rw [Int32.toNatClampNeg]; omega
      obtain ⟨xv, hxv⟩ : ∃ x, xs[i3.toNatClampNeg]? = some x := ⟨_, List.getElem?_eq_getElem (by omega)⟩
      refine Done.step (ldJ X0 hx hZ e0 A2 (j := i3) (x := (.long xv)) hnn (by rw [List.getElem?_map, hxv]; rfl) (g := (mkF m 22 #[.val (.ref a1), .val (.ref a2), .val (.ref d2), .val (.int i3)] [(.int i3), (.ref d2)])) rfl rfl (hb hby d3_22)) ?_
      show Done p e below s _ _ _ (T.setTop (mkF m 23 #[.val (.ref a1), .val (.ref a2), .val (.ref d2), .val (.int i3)] [(.long xv)]))
      refine Done.step (fun t k => XS.lconst X0.here hx rfl (hb hby d3_23) k) ?_
      show Done p e below s _ _ _ (T.setTop (mkF m 24 #[.val (.ref a1), .val (.ref a2), .val (.ref d2), .val (.int i3)] [(.long (0 : Int64)), (.long xv)]))
      refine Done.step (fun t k => XS.lcmp X0.here hx rfl (hb hby d3_24) rfl k) ?_
      show Done p e below s _ _ _ (T.setTop (mkF m 25 #[.val (.ref a1), .val (.ref a2), .val (.ref d2), .val (.int i3)] [(.int (lcmpW xv (0 : Int64)))]))
      refine Done.step (fun t k => XS.ifYes X0.here hx rfl (pc0 := 25) (pc' := 44) rfl (hb hby d3_25) rfl ((if0 _ _).trans (flt (fun q_ => (show ¬ (xv < (0 : Int64)) from (by rw [Int64.lt_iff_toInt_lt]; have := hpx _ _ hxv; show ¬ _ < (0 : Int); omega)) ((lw_lt _ _).mp q_))).2.1) (by decide) (by decide) k) ?_
      show Done p e below s _ _ _ (T.setTop (mkF m 44 #[.val (.ref a1), .val (.ref a2), .val (.ref d2), .val (.int i3)] []))
      refine Done.step (fun t k => XS.iloadN X0.here hx rfl (hb hby d3_44) rfl k) ?_
      show Done p e below s _ _ _ (T.setTop (mkF m 45 #[.val (.ref a1), .val (.ref a2), .val (.ref d2), .val (.int i3)] [(.int i3)]))
      by_cases c2 : (0 : Int32) < i3
      · refine Done.step (fun t k => XS.ifNo X0.here hx rfl (hb hby d3_45) rfl ((if0 _ _).trans (tlt c2).2.2.2) k) ?_
        show Done p e below s _ _ _ (T.setTop (mkF m 48 #[.val (.ref a1), .val (.ref a2), .val (.ref d2), .val (.int i3)] []))
        refine Done.step (fun t k => XS.aloadN X0.here hx rfl (hb hby d3_48) rfl rfl k) ?_
        show Done p e below s _ _ _ (T.setTop (mkF m 49 #[.val (.ref a1), .val (.ref a2), .val (.ref d2), .val (.int i3)] [(.ref d2)]))
        refine Done.step (fun t k => XS.iloadN X0.here hx rfl (hb hby d3_49) rfl k) ?_
        show Done p e below s _ _ _ (T.setTop (mkF m 50 #[.val (.ref a1), .val (.ref a2), .val (.ref d2), .val (.int i3)] [(.int i3), (.ref d2)]))
        refine Done.step (ldJ X0 hx hZ e0 A2 (j := i3) (x := (.long xv)) hnn (by rw [List.getElem?_map, hxv]; rfl) (g := (mkF m 50 #[.val (.ref a1), .val (.ref a2), .val (.ref d2), .val (.int i3)] [(.int i3), (.ref d2)])) rfl rfl (hb hby d3_50)) ?_
        show Done p e below s _ _ _ (T.setTop (mkF m 51 #[.val (.ref a1), .val (.ref a2), .val (.ref d2), .val (.int i3)] [(.long xv)]))
        refine Done.step (fun t k => XS.aloadN X0.here hx rfl (hb hby d3_51) rfl rfl k) ?_
        show Done p e below s _ _ _ (T.setTop (mkF m 52 #[.val (.ref a1), .val (.ref a2), .val (.ref d2), .val (.int i3)] [(.ref d2), (.long xv)]))
        refine Done.step (fun t k => XS.iloadN X0.here hx rfl (hb hby d3_52) rfl k) ?_
        show Done p e below s _ _ _ (T.setTop (mkF m 53 #[.val (.ref a1), .val (.ref a2), .val (.ref d2), .val (.int i3)] [(.int i3), (.ref d2), (.long xv)]))
        refine Done.step (fun t k => XS.iconst X0.here hx rfl (hb hby d3_53) k) ?_
        show Done p e below s _ _ _ (T.setTop (mkF m 54 #[.val (.ref a1), .val (.ref a2), .val (.ref d2), .val (.int i3)] [(.int (1 : Int32)), (.int i3), (.ref d2), (.long xv)]))
        refine Done.step (fun t k => XS.isub X0.here hx rfl (hb hby d3_54) rfl k) ?_
        show Done p e below s _ _ _ (T.setTop (mkF m 55 #[.val (.ref a1), .val (.ref a2), .val (.ref d2), .val (.int i3)] [(.int (i3 - (1 : Int32))), (.ref d2), (.long xv)]))
        have hpos : (0 : Int32) < i3 := c2
        have hpos' : 0 < i3.toInt := Int32.lt_iff_toInt_lt.mp hpos
        have him : (i3 - (1 : Int32)).toInt = i3.toInt - 1 := by have a := c_isub i3 (1 : Int32); have r := rng32 (i3 - (1 : Int32)); have r2 := rng32 i3; have e1 : (1 : Int32).toInt = 1 := rfl; omega
        have hmn : ¬ (i3 - (1 : Int32)) < 0 := by rw [Int32.lt_iff_toInt_lt, him]; show ¬ _ < (0 : Int); omega
        have hmc : (i3 - (1 : Int32)).toNatClampNeg + 1 = i3.toNatClampNeg := by rw [Int32.toNatClampNeg, Int32.toNatClampNeg]; omega
        obtain ⟨yv, hyv⟩ : ∃ x, xs[(i3 - (1 : Int32)).toNatClampNeg]? = some x := ⟨_, List.getElem?_eq_getElem (by omega)⟩
        refine Done.step (ldJ X0 hx hZ e0 A2 (j := (i3 - (1 : Int32))) (x := (.long yv)) hmn (by rw [List.getElem?_map, hyv]; rfl) (g := (mkF m 55 #[.val (.ref a1), .val (.ref a2), .val (.ref d2), .val (.int i3)] [(.int (i3 - (1 : Int32))), (.ref d2), (.long xv)])) rfl rfl (hb hby d3_55)) ?_
        show Done p e below s _ _ _ (T.setTop (mkF m 56 #[.val (.ref a1), .val (.ref a2), .val (.ref d2), .val (.int i3)] [(.long yv), (.long xv)]))
        refine Done.step (fun t k => XS.lcmp X0.here hx rfl (hb hby d3_56) rfl k) ?_
        show Done p e below s _ _ _ (T.setTop (mkF m 57 #[.val (.ref a1), .val (.ref a2), .val (.ref d2), .val (.int i3)] [(.int (lcmpW xv yv))]))
        refine Done.step (fun t k => XS.ifYes X0.here hx rfl (pc0 := 57) (pc' := 81) rfl (hb hby d3_57) rfl ((if0 _ _).trans (flt (fun q_ => (show ¬ (xv < yv) from (by rw [Int64.lt_iff_toInt_lt]; have := hasc _ _ _ _ hyv hxv (by omega); omega)) ((lw_lt _ _).mp q_))).2.1) (by decide) (by decide) k) ?_
        show Done p e below s _ _ _ (T.setTop (mkF m 81 #[.val (.ref a1), .val (.ref a2), .val (.ref d2), .val (.int i3)] []))
        refine Done.step (fun t k => XS.iinc X0.here hx rfl (hb hby d3_81) rfl (l' := #[.val (.ref a1), .val (.ref a2), .val (.ref d2), .val (.int (i3 + (1 : Int32)))]) rfl k) ?_
        show Done p e below s _ _ _ (T.setTop (mkF m 84 #[.val (.ref a1), .val (.ref a2), .val (.ref d2), .val (.int (i3 + (1 : Int32)))] []))
        refine Done.step (fun t k => XS.goto X0.here hx rfl (pc0 := 84) (pc' := 14) rfl (hb hby d3_84) (by decide) (by decide) k) ?_
        show Done p e below s _ _ _ (T.setTop (mkF m 14 #[.val (.ref a1), .val (.ref a2), .val (.ref d2), .val (.int (i3 + (1 : Int32)))] []))
        have hip : (i3 + (1 : Int32)).toInt = i3.toInt + 1 := by have a := c_iadd i3 (1 : Int32); have r := rng32 (i3 + (1 : Int32)); have r2 := rng32 n4; have e1 : (1 : Int32).toInt = 1 := rfl; omega
        exact ih T _ (i3 + (1 : Int32)) X0 N0 Z0 e0 (by omega) (by omega)
      · refine Done.step (fun t k => XS.ifYes X0.here hx rfl (pc0 := 45) (pc' := 81) rfl (hb hby d3_45) rfl ((if0 _ _).trans (flt c2).2.2.2) (by decide) (by decide) k) ?_
        show Done p e below s _ _ _ (T.setTop (mkF m 81 #[.val (.ref a1), .val (.ref a2), .val (.ref d2), .val (.int i3)] []))
        refine Done.step (fun t k => XS.iinc X0.here hx rfl (hb hby d3_81) rfl (l' := #[.val (.ref a1), .val (.ref a2), .val (.ref d2), .val (.int (i3 + (1 : Int32)))]) rfl k) ?_
        show Done p e below s _ _ _ (T.setTop (mkF m 84 #[.val (.ref a1), .val (.ref a2), .val (.ref d2), .val (.int (i3 + (1 : Int32)))] []))
        refine Done.step (fun t k => XS.goto X0.here hx rfl (pc0 := 84) (pc' := 14) rfl (hb hby d3_84) (by decide) (by decide) k) ?_
        show Done p e below s _ _ _ (T.setTop (mkF m 14 #[.val (.ref a1), .val (.ref a2), .val (.ref d2), .val (.int (i3 + (1 : Int32)))] []))
        have hip : (i3 + (1 : Int32)).toInt = i3.toInt + 1 := by have a := c_iadd i3 (1 : Int32); have r := rng32 (i3 + (1 : Int32)); have r2 := rng32 n4; have e1 : (1 : Int32).toInt = 1 := rfl; omega
        exact ih T _ (i3 + (1 : Int32)) X0 N0 Z0 e0 (by omega) (by omega)
    · refine Done.step (fun t k => XS.icmpYes X0.here hx rfl (pc0 := 17) (pc' := 87) rfl (hb hby d3_17) rfl (flt c1).2.1 (by decide) (by decide) k) ?_
      show Done p e below s _ _ _ (T.setTop (mkF m 87 #[.val (.ref a1), .val (.ref a2), .val (.ref d2), .val (.int i3)] []))
      refine Done.step (fun t k => XS.aloadN X0.here hx rfl (hb hby d3_87) rfl rfl k) ?_
      show Done p e below s _ _ _ (T.setTop (mkF m 88 #[.val (.ref a1), .val (.ref a2), .val (.ref d2), .val (.int i3)] [(.ref a1)]))
      refine Done.step (fun t k => XS.aloadN X0.here hx rfl (hb hby d3_88) rfl rfl k) ?_
      show Done p e below s _ _ _ (T.setTop (mkF m 89 #[.val (.ref a1), .val (.ref a2), .val (.ref d2), .val (.int i3)] [(.ref d2), (.ref a1)]))
      obtain ⟨T101, h101, X101, e101, W101, st101⟩ := putF X0 hx hZ hown (host := "") (Or.inl (hw _ (List.mem_of_getElem? (i := 27) rfl))) Via.refl e0 F1 E1 (Or.inr ⟨(hw _ (List.mem_of_getElem? (i := 28) rfl)), rfl, hnm⟩) (hw _ (List.mem_of_getElem? (i := 10) rfl)) (ty := (.array .long)) (by decide) rfl rfl (g := (mkF m 89 #[.val (.ref a1), .val (.ref a2), .val (.ref d2), .val (.int i3)] [(.ref d2), (.ref a1)])) rfl rfl (hb hby d3_89)
      have f102 : Ax Z h101 d2 .long (xs.map Value.long) := A2.other W101 (Ne.symm ne12)
      have f103 : Exa Z h101 a1 "com/example/upkeep/upkeep/core/PageChanges" := E1.wr W101
      have f104 : Fld Z h101 a1 "com/example/upkeep/upkeep/core/PageChanges" "changes" "[J" (.ref d2) := F1.same W101
      have Z101 : n0 ≤ h101.size := Nat.le_trans Z0 (Keep.of_wr W101).1
      have N101 := Fr.snoc X101 N0 g1
      have K101 : Keep hO h101 [a1] := K0.wr W101 (Or.inl (by simp))
      refine Done.step st101 ?_
      show Done p e below s _ _ _ (T101.setTop (mkF m 92 #[.val (.ref a1), .val (.ref a2), .val (.ref d2), .val (.int i3)] []))
      exact Done.void X101 hx hlk hret (hb hby d3_92) (by decide) (by decide) ⟨rfl, N101, (by rw [e101]; exact ⟨K101, f103, d2, f104, f102, szd⟩)⟩
theorem d3_0 : decode prog_33_method_1_code 0 = .ok (.aload_n 0, 1) := by decide +kernel
theorem d3_1 : decode prog_33_method_1_code 1 = .ok (.invokespecial 1, 3) := by decide +kernel
theorem d3_4 : decode prog_33_method_1_code 4 = .ok (.aload_n 1, 1) := by decide +kernel
theorem d3_5 : decode prog_33_method_1_code 5 = .ok (.invokevirtual 7, 3) := by decide +kernel
theorem d3_8 : decode prog_33_method_1_code 8 = .ok (.checkcast 8, 3) := by decide +kernel
theorem d3_11 : decode prog_33_method_1_code 11 = .ok (.astore_n 2, 1) := by decide +kernel
theorem d3_12 : decode prog_33_method_1_code 12 = .ok (.iconst 0, 1) := by decide +kernel
theorem d3_13 : decode prog_33_method_1_code 13 = .ok (.istore_n 3, 1) := by decide +kernel
theorem pn_3 : plainName "com/example/upkeep/upkeep/core/PageChanges" = true := by first | (simp [plainName, overriddenIn]; done) | decide +kernel
theorem ef_3 (m : MethodId) (a1 : Addr) (a2 : Addr) : entryFrame m #[(.ref a1), (.ref a2)] 4 = mkF m 0 #[.val (.ref a1), .val (.ref a2), .unset, .unset] [] := by first | (simp [entryFrame, mkF, argsToLocals, Value.category]; done) | rfl
def Qrm3 (Z : State) (a1 : Addr) (a2 : Addr) (xs : List Int64) (h0 : Heap) (n0 : Nat) : Option Value → Heap → List Loc → Prop := fun v h L => v = none ∧ Fr n0 L ∧ Keep h0 h [a1] ∧ Exa Z h a1 "com/example/upkeep/upkeep/core/PageChanges" ∧ ∃ d : Addr, Fld Z h a1 "com/example/upkeep/upkeep/core/PageChanges" "changes" "[J" (.ref d) ∧ Ax Z h d .long (xs.map Value.long) ∧ h0.size ≤ d
set_option maxRecDepth 65536 in
set_option maxHeartbeats 40000000 in
theorem rm3 (l : Launch) (Z : State) (a0 : Array Value) (hw : ∀ d ∈ tables_1, d.before a0 Z = true) (ws : List Jvm.Cond) (a1 : Addr) (a2 : Addr) (xs : List Int64) (h0 : Heap) (n0 : Nat) (Z0 : n0 ≤ h0.size) (E1 : Exa Z h0 a1 "com/example/upkeep/upkeep/core/PageChanges") (F_changes : Fld Z h0 a1 "com/example/upkeep/upkeep/core/PageChanges" "changes" "[J" .null) (g1 : n0 ≤ a1) (E2 : Exa Z h0 a2 "[J") (A2 : Ax Z h0 a2 .long (xs.map Value.long)) (hlen : xs.length ≤ 4) (hpx : Pos xs) (hasc : Asc xs) :
    MetFree l (⟨"com/example/upkeep/upkeep/core/PageChanges", "<init>", "([J)V"⟩ : MethodName) (head1 (Jvm.Cond.code (⟨"com/example/upkeep/upkeep/core/PageChanges", "<init>", "([J)V"⟩ : MethodName) prog_33_method_1_code 4 none :: ws) ({ frames := 1, cells := 1, slots := 4, locals := 14 } : Room)) (fun a U => a = #[(.ref a1), (.ref a2)] ∧ Z.Warmed39 U.vm ∧ U.heap = h0) (fun _ _ _ _ _ => True) (fun _ U o U' => ∃ v L, o = .returned v ∧ Qrm3 Z a1 a2 xs h0 n0 v U'.heap L ∧ FrameEnd U o U' L ({ frames := 1, cells := 1, slots := 4, locals := 14 } : Room).cells ({ frames := 1, cells := 1, slots := 4, locals := 14 } : Room).slots) := by
  refine MetFree.of_bodySF (plainFor_of_name pn_3) hisR ?_
  intro p e s m args below meth c s₁ Bd hml0 hP hK
  obtain ⟨rfl, hZ, hh⟩ := hP
  have hx := Bd.exec
  have hby := Bd.bytes
  have hml : c.maxLocals = 4 := hml0
  have hown : s.vm.findClass "com/example/upkeep/upkeep/core/PageChanges" = some m.cls := findClass_of_methodNamed Bd.named
  have hnm := (name_of_methodNamed Bd.named Bd.method).1
  have hlk : meth.locks = false := BodyLoose.notSynchronized Bd
  have hret := Bd.returns
  have X0 : Stand p l e ({ frames := 1, cells := 1, slots := 4, locals := 14 } : Room) s m #[(.ref a1), (.ref a2)] below meth c s₁ [] 0 0 := Stand.of_body Bd
  have e0 : s₁.heap = h0 := by rw [← hh, Bd.state]; rfl
  have N0 := Fr.nil n0
  show Done p e below s (Qrm3 Z a1 a2 xs h0 n0) ({ frames := 1, cells := 1, slots := 4, locals := 14 } : Room).cells ({ frames := 1, cells := 1, slots := 4, locals := 14 } : Room).slots (s₁.setTop (entryFrame m #[(.ref a1), (.ref a2)] 4))
  refine Done.step (fun t k => castTop (ef_3 m a1 a2) k) ?_
  show Done p e below s _ _ _ (s₁.setTop (mkF m 0 #[.val (.ref a1), .val (.ref a2), .unset, .unset] []))
  refine Done.step (fun t k => XS.aloadN X0.here hx rfl (hb hby d3_0) rfl rfl k) ?_
  show Done p e below s _ _ _ (s₁.setTop (mkF m 1 #[.val (.ref a1), .val (.ref a2), .unset, .unset] [(.ref a1)]))
  obtain ⟨T101, X101, e101, st101⟩ := initO X0 hx hZ hown (hw _ (List.mem_of_getElem? (i := 15) rfl)) (hw _ (List.mem_of_getElem? (i := 16) rfl)) (hw _ (List.mem_of_getElem? (i := 17) rfl)) e0 (g := (mkF m 1 #[.val (.ref a1), .val (.ref a2), .unset, .unset] [(.ref a1)])) rfl (by rw [hml]; rfl) rfl (hb hby d3_1) (by decide) (W := 0) (by show 2 * 0 + _ ≤ _; exact Nat.le_of_eq rfl) (by decide)
  refine Done.step st101 ?_
  show Done p e below s _ _ _ (T101.setTop (mkF m 4 #[.val (.ref a1), .val (.ref a2), .unset, .unset] []))
  refine Done.step (fun t k => XS.aloadN X101.here hx rfl (hb hby d3_4) rfl rfl k) ?_
  show Done p e below s _ _ _ (T101.setTop (mkF m 5 #[.val (.ref a1), .val (.ref a2), .unset, .unset] [(.ref a2)]))
  obtain ⟨T102, h102, X102, e102, E102, A102, B102, st102⟩ := cloX X101 hx hZ hown (hw _ (List.mem_of_getElem? (i := 18) rfl)) (hw _ (List.mem_of_getElem? (i := 19) rfl)) (hw _ (List.mem_of_getElem? (i := 23) rfl)) (hw _ (List.mem_of_getElem? (i := 21) rfl)) (hw _ (List.mem_of_getElem? (i := 22) rfl)) (hw _ (List.mem_of_getElem? (i := 24) rfl)) e101 A2 E2 (by intro v hv; obtain ⟨x, -, rfl⟩ := List.mem_map.mp hv; rfl) (g := (mkF m 5 #[.val (.ref a1), .val (.ref a2), .unset, .unset] [(.ref a2)])) rfl (by rw [hml]; rfl) rfl (hb hby d3_5) (by decide) (W := 0) (cap := 4) (by show 2 * 0 + _ ≤ _; exact Nat.le_of_eq rfl) (by decide) (by rw [List.length_map]; exact hlen) (by decide) (by decide)
  obtain ⟨b102, gq102⟩ : ∃ z, z = h0.size := ⟨_, rfl⟩
  rw [← gq102] at A102 B102 st102
  have ne103 : a1 ≠ b102 := Nat.ne_of_lt (Nat.lt_of_lt_of_le E1.lt (Nat.le_of_eq gq102.symm))
  have ne104 : a2 ≠ b102 := Nat.ne_of_lt (Nat.lt_of_lt_of_le E2.lt (Nat.le_of_eq gq102.symm))
  have f105 : Exa Z h102 a1 "com/example/upkeep/upkeep/core/PageChanges" := E1.ext E102
  have f106 : Fld Z h102 a1 "com/example/upkeep/upkeep/core/PageChanges" "changes" "[J" .null := F_changes.ext E102
  have f107 : Exa Z h102 a2 "[J" := E2.ext E102
  have f108 : Ax Z h102 a2 .long (xs.map Value.long) := A2.ext E102
  have g_b102 : n0 ≤ b102 := Nat.le_trans Z0 (Nat.le_of_eq gq102.symm)
  have sz_b102 : h0.size ≤ b102 := Nat.le_trans (Keep.refl h0 [a1]).1 (Nat.le_of_eq gq102.symm)
  have Z102 : n0 ≤ h102.size := Nat.le_trans Z0 E102.1
  have K102 : Keep h0 h102 [a1] := (Keep.refl h0 [a1]).ext E102
  refine Done.step st102 ?_
  show Done p e below s _ _ _ (T102.setTop (mkF m 8 #[.val (.ref a1), .val (.ref a2), .unset, .unset] [(.ref b102)]))
  obtain ⟨T109, X109, e109, st109⟩ := castY X102 hx hZ hown (hw _ (List.mem_of_getElem? (i := 25) rfl)) e102 (Ins.self B102) (g := (mkF m 8 #[.val (.ref a1), .val (.ref a2), .unset, .unset] [(.ref b102)])) rfl rfl (hb hby d3_8)
  refine Done.step st109 ?_
  show Done p e below s _ _ _ (T109.setTop (mkF m 11 #[.val (.ref a1), .val (.ref a2), .unset, .unset] [(.ref b102)]))
  refine Done.step (fun t k => XS.astoreN X109.here hx rfl (hb hby d3_11) rfl rfl (l' := #[.val (.ref a1), .val (.ref a2), .val (.ref b102), .unset]) rfl k) ?_
  show Done p e below s _ _ _ (T109.setTop (mkF m 12 #[.val (.ref a1), .val (.ref a2), .val (.ref b102), .unset] []))
  refine Done.step (fun t k => XS.iconst X109.here hx rfl (hb hby d3_12) k) ?_
  show Done p e below s _ _ _ (T109.setTop (mkF m 13 #[.val (.ref a1), .val (.ref a2), .val (.ref b102), .unset] [(.int (0 : Int32))]))
  refine Done.step (fun t k => XS.istoreN X109.here hx rfl (hb hby d3_13) rfl (l' := #[.val (.ref a1), .val (.ref a2), .val (.ref b102), .val (.int (0 : Int32))]) rfl k) ?_
  show Done p e below s _ _ _ (T109.setTop (mkF m 14 #[.val (.ref a1), .val (.ref a2), .val (.ref b102), .val (.int (0 : Int32))] []))
  have hl3 : xs.length.toInt32.toInt = xs.length := len_toInt (by omega)
  exact lpc a1 a2 b102 xs.length.toInt32 xs hx hZ hw hby hml hown hlk hret hnm g1 K102 f105 f106 A102 ne103 sz_b102 rfl hl3 hpx hasc (xs.length + 1)  T109 _ (0 : Int32) X109 N0 Z102 e109 (by rw [hl3]; show ((xs.length : Int) - 0).toNat < _; omega) (by decide)
theorem d5_9 : decode prog_33_method_4_code 9 = .ok (.iload_n 3, 1) := by decide +kernel
theorem d5_10 : decode prog_33_method_4_code 10 = .ok (.iload 4, 2) := by decide +kernel
theorem d5_12 : decode prog_33_method_4_code 12 = .ok (.if_icmp .ge 38, 3) := by decide +kernel
theorem d5_15 : decode prog_33_method_4_code 15 = .ok (.iload_n 3, 1) := by decide +kernel
theorem d5_16 : decode prog_33_method_4_code 16 = .ok (.iload 4, 2) := by decide +kernel
theorem d5_18 : decode prog_33_method_4_code 18 = .ok (.iadd, 1) := by decide +kernel
theorem d5_19 : decode prog_33_method_4_code 19 = .ok (.iconst 1, 1) := by decide +kernel
theorem d5_20 : decode prog_33_method_4_code 20 = .ok (.iushr, 1) := by decide +kernel
theorem d5_21 : decode prog_33_method_4_code 21 = .ok (.istore 5, 2) := by decide +kernel
theorem d5_23 : decode prog_33_method_4_code 23 = .ok (.aload_n 0, 1) := by decide +kernel
theorem d5_24 : decode prog_33_method_4_code 24 = .ok (.getfield 25, 3) := by decide +kernel
theorem d5_27 : decode prog_33_method_4_code 27 = .ok (.iload 5, 2) := by decide +kernel
theorem d5_29 : decode prog_33_method_4_code 29 = .ok (.laload, 1) := by decide +kernel
theorem d5_30 : decode prog_33_method_4_code 30 = .ok (.lload_n 1, 1) := by decide +kernel
theorem d5_31 : decode prog_33_method_4_code 31 = .ok (.lcmp, 1) := by decide +kernel
theorem d5_32 : decode prog_33_method_4_code 32 = .ok (.ifCond .gt 11, 3) := by decide +kernel
theorem d5_35 : decode prog_33_method_4_code 35 = .ok (.iload 5, 2) := by decide +kernel
theorem d5_37 : decode prog_33_method_4_code 37 = .ok (.iconst 1, 1) := by decide +kernel
theorem d5_38 : decode prog_33_method_4_code 38 = .ok (.iadd, 1) := by decide +kernel
theorem d5_39 : decode prog_33_method_4_code 39 = .ok (.istore_n 3, 1) := by decide +kernel
theorem d5_40 : decode prog_33_method_4_code 40 = .ok (.goto 7, 3) := by decide +kernel
theorem d5_43 : decode prog_33_method_4_code 43 = .ok (.iload 5, 2) := by decide +kernel
theorem d5_45 : decode prog_33_method_4_code 45 = .ok (.istore 4, 2) := by decide +kernel
theorem d5_47 : decode prog_33_method_4_code 47 = .ok (.goto (-38), 3) := by decide +kernel
theorem d5_50 : decode prog_33_method_4_code 50 = .ok (.iload_n 3, 1) := by decide +kernel
theorem d5_51 : decode prog_33_method_4_code 51 = .ok (.ireturn, 1) := by decide +kernel
set_option maxRecDepth 65536 in
set_option maxHeartbeats 40000000 in
theorem lpv {p : Program} {l : Launch} {e : Env} {s : State} {m : MethodId} {args : Array Value} {below : List Frame} {meth : Method} {c : Code} {Z : State} {a0 : Array Value} {h0 : Heap} {n0 : Nat} (a1 : Addr) (q2 : Int64) (d7 : Addr) (xs : List Int64)
    (hx : p.tables.exec = Jvm.exec) (hZ : Z.Warmed39 s.vm) (hw : ∀ d ∈ tables_1, d.before a0 Z = true) (hby : c.code = prog_33_method_4_code) (hml : c.maxLocals = 6) (hown : s.vm.findClass "com/example/upkeep/upkeep/core/PageChanges" = some m.cls) (hlk : meth.locks = false) (hret : meth.sig.returnType = (some .int : Option FieldType)) (hnm : meth.name = "versionAt") (F7 : Fld Z h0 a1 "com/example/upkeep/upkeep/core/PageChanges" "changes" "[J" (.ref d7)) (A7 : Ax Z h0 d7 .long (xs.map Value.long)) (hasc : Asc xs) (hlen : xs.length ≤ 4) :
    ∀ (k : Nat) (T : State) (locs : List Loc) (i3 : Int32) (i4 : Int32) (s5 : Slot) (X0 : Stand p l e ({ frames := 0, cells := 0, slots := 0, locals := 0 } : Room) s m args below meth c T locs 0 0) (N0 : Fr n0 locs) (Z0 : n0 ≤ h0.size) (e0 : T.heap = h0) (hs5 : s5 = Slot.unset ∨ ∃ z : Int32, s5 = .val (.int z)) (hk : (i4.toInt - i3.toInt).toNat < k) (hi0 : 0 ≤ i3.toInt) (hi1 : i3.toInt ≤ i4.toInt) (hi2 : i4.toInt ≤ xs.length) (hlo : ∀ (j : Nat) (x : Int64), xs[j]? = some x → (j : Int) < i3.toInt → x.toInt ≤ q2.toInt) (hhi : ∀ (j : Nat) (x : Int64), xs[j]? = some x → i4.toInt ≤ (j : Int) → q2.toInt < x.toInt), Done p e below s (fun v h L => (∃ k : Int32, v = some (.int k) ∧ Up xs q2 k) ∧ Fr n0 L ∧ h = h0) ({ frames := 0, cells := 0, slots := 0, locals := 0 } : Room).cells ({ frames := 0, cells := 0, slots := 0, locals := 0 } : Room).slots (T.setTop (mkF m 9 #[.val (.ref a1), .val (.long q2), .second, .val (.int i3), .val (.int i4), s5] [])) := by
  intro k
  induction k with
  | zero => intro T locs i3 i4 s5 X0 N0 Z0 e0 hs5 hk hi0 hi1 hi2 hlo hhi; exact absurd hk (Nat.not_lt_zero _)
  | succ k ih =>
    intro T locs i3 i4 s5 X0 N0 Z0 e0 hs5 hk hi0 hi1 hi2 hlo hhi
    show Done p e below s _ _ _ (T.setTop (mkF m 9 #[.val (.ref a1), .val (.long q2), .second, .val (.int i3), .val (.int i4), s5] []))
    refine Done.step (fun t k => XS.iloadN X0.here hx rfl (hb hby d5_9) rfl k) ?_
    show Done p e below s _ _ _ (T.setTop (mkF m 10 #[.val (.ref a1), .val (.long q2), .second, .val (.int i3), .val (.int i4), s5] [(.int i3)]))
    refine Done.step (fun t k => XS.iload X0.here hx rfl (hb hby d5_10) rfl k) ?_
    show Done p e below s _ _ _ (T.setTop (mkF m 12 #[.val (.ref a1), .val (.long q2), .second, .val (.int i3), .val (.int i4), s5] [(.int i4), (.int i3)]))
    by_cases c1 : i3 < i4
    · refine Done.step (fun t k => XS.icmpNo X0.here hx rfl (hb hby d5_12) rfl (tlt c1).2.1 k) ?_
      show Done p e below s _ _ _ (T.setTop (mkF m 15 #[.val (.ref a1), .val (.long q2), .second, .val (.int i3), .val (.int i4), s5] []))
      refine Done.step (fun t k => XS.iloadN X0.here hx rfl (hb hby d5_15) rfl k) ?_
      show Done p e below s _ _ _ (T.setTop (mkF m 16 #[.val (.ref a1), .val (.long q2), .second, .val (.int i3), .val (.int i4), s5] [(.int i3)]))
      refine Done.step (fun t k => XS.iload X0.here hx rfl (hb hby d5_16) rfl k) ?_
      show Done p e below s _ _ _ (T.setTop (mkF m 18 #[.val (.ref a1), .val (.long q2), .second, .val (.int i3), .val (.int i4), s5] [(.int i4), (.int i3)]))
      refine Done.step (fun t k => XS.iadd X0.here hx rfl (hb hby d5_18) rfl k) ?_
      show Done p e below s _ _ _ (T.setTop (mkF m 19 #[.val (.ref a1), .val (.long q2), .second, .val (.int i3), .val (.int i4), s5] [(.int (i3 + i4))]))
      refine Done.step (fun t k => XS.iconst X0.here hx rfl (hb hby d5_19) k) ?_
      show Done p e below s _ _ _ (T.setTop (mkF m 20 #[.val (.ref a1), .val (.long q2), .second, .val (.int i3), .val (.int i4), s5] [(.int (1 : Int32)), (.int (i3 + i4))]))
      refine Done.step (fun t k => XS.iushr X0.here hx rfl (hb hby d5_20) rfl k) ?_
      show Done p e below s _ _ _ (T.setTop (mkF m 21 #[.val (.ref a1), .val (.long q2), .second, .val (.int i3), .val (.int i4), s5] [(.int (((i3 + i4).toUInt32 >>> ((1 : Int32) &&& 31).toUInt32).toInt32))]))
      refine Done.step (fun t k => XS.istore X0.here hx rfl (hb hby d5_21) rfl (l' := #[.val (.ref a1), .val (.long q2), .second, .val (.int i3), .val (.int i4), .val (.int (((i3 + i4).toUInt32 >>> ((1 : Int32) &&& 31).toUInt32).toInt32))]) (by rcases hs5 with rfl | ⟨z, rfl⟩ <;> rfl) k) ?_
      show Done p e below s _ _ _ (T.setTop (mkF m 23 #[.val (.ref a1), .val (.long q2), .second, .val (.int i3), .val (.int i4), .val (.int (((i3 + i4).toUInt32 >>> ((1 : Int32) &&& 31).toUInt32).toInt32))] []))
      refine Done.step (fun t k => XS.aloadN X0.here hx rfl (hb hby d5_23) rfl rfl k) ?_
      show Done p e below s _ _ _ (T.setTop (mkF m 24 #[.val (.ref a1), .val (.long q2), .second, .val (.int i3), .val (.int i4), .val (.int (((i3 + i4).toUInt32 >>> ((1 : Int32) &&& 31).toUInt32).toInt32))] [(.ref a1)]))
      obtain ⟨T101, X101, e101, st101⟩ := getF X0 hx hZ hown (host := "") (Or.inl (hw _ (List.mem_of_getElem? (i := 27) rfl))) Via.refl e0 F7 (g := (mkF m 24 #[.val (.ref a1), .val (.long q2), .second, .val (.int i3), .val (.int i4), .val (.int (((i3 + i4).toUInt32 >>> ((1 : Int32) &&& 31).toUInt32).toInt32))] [(.ref a1)])) rfl rfl (hb hby d5_24)
      refine Done.step st101 ?_
      show Done p e below s _ _ _ (T101.setTop (mkF m 27 #[.val (.ref a1), .val (.long q2), .second, .val (.int i3), .val (.int i4), .val (.int (((i3 + i4).toUInt32 >>> ((1 : Int32) &&& 31).toUInt32).toInt32))] [(.ref d7)]))
      refine Done.step (fun t k => XS.iload X101.here hx rfl (hb hby d5_27) rfl k) ?_
      show Done p e below s _ _ _ (T101.setTop (mkF m 29 #[.val (.ref a1), .val (.long q2), .second, .val (.int i3), .val (.int i4), .val (.int (((i3 + i4).toUInt32 >>> ((1 : Int32) &&& 31).toUInt32).toInt32))] [(.int (((i3 + i4).toUInt32 >>> ((1 : Int32) &&& 31).toUInt32).toInt32)), (.ref d7)]))
      have hlt : i3.toInt < i4.toInt := Int32.lt_iff_toInt_lt.mp c1
      have hm : (((i3 + i4).toUInt32 >>> ((1 : Int32) &&& 31).toUInt32).toInt32).toInt = (i3.toInt + i4.toInt) / 2 := own_mid i3 i4 hi0 hi1 (by omega)
      have hmn : ¬ (((i3 + i4).toUInt32 >>> ((1 : Int32) &&& 31).toUInt32).toInt32) < 0 := by rw [Int32.lt_iff_toInt_lt, hm]; show ¬ _ < (0 : Int); omega
      have hmc : ((((i3 + i4).toUInt32 >>> ((1 : Int32) &&& 31).toUInt32).toInt32).toNatClampNeg : Int) = (i3.toInt + i4.toInt) / 2 := by rw [Int32.toNatClampNeg, hm]; omega
      obtain ⟨xv, hxv⟩ : ∃ x, xs[(((i3 + i4).toUInt32 >>> ((1 : Int32) &&& 31).toUInt32).toInt32).toNatClampNeg]? = some x := ⟨_, List.getElem?_eq_getElem (by omega)⟩
      refine Done.step (ldJ X101 hx hZ e101 A7 (j := (((i3 + i4).toUInt32 >>> ((1 : Int32) &&& 31).toUInt32).toInt32)) (x := (.long xv)) hmn (by rw [List.getElem?_map, hxv]; rfl) (g := (mkF m 29 #[.val (.ref a1), .val (.long q2), .second, .val (.int i3), .val (.int i4), .val (.int (((i3 + i4).toUInt32 >>> ((1 : Int32) &&& 31).toUInt32).toInt32))] [(.int (((i3 + i4).toUInt32 >>> ((1 : Int32) &&& 31).toUInt32).toInt32)), (.ref d7)])) rfl rfl (hb hby d5_29)) ?_
      show Done p e below s _ _ _ (T101.setTop (mkF m 30 #[.val (.ref a1), .val (.long q2), .second, .val (.int i3), .val (.int i4), .val (.int (((i3 + i4).toUInt32 >>> ((1 : Int32) &&& 31).toUInt32).toInt32))] [(.long xv)]))
      refine Done.step (fun t k => XS.lloadN X101.here hx rfl (hb hby d5_30) rfl k) ?_
      show Done p e below s _ _ _ (T101.setTop (mkF m 31 #[.val (.ref a1), .val (.long q2), .second, .val (.int i3), .val (.int i4), .val (.int (((i3 + i4).toUInt32 >>> ((1 : Int32) &&& 31).toUInt32).toInt32))] [(.long q2), (.long xv)]))
      refine Done.step (fun t k => XS.lcmp X101.here hx rfl (hb hby d5_31) rfl k) ?_
      show Done p e below s _ _ _ (T101.setTop (mkF m 32 #[.val (.ref a1), .val (.long q2), .second, .val (.int i3), .val (.int i4), .val (.int (((i3 + i4).toUInt32 >>> ((1 : Int32) &&& 31).toUInt32).toInt32))] [(.int (lcmpW xv q2))]))
      by_cases c2 : q2 < xv
      · refine Done.step (fun t k => XS.ifYes X101.here hx rfl (pc0 := 32) (pc' := 43) rfl (hb hby d5_32) rfl ((if0 _ _).trans (tlt ((lw_gt _ _).mpr c2)).2.2.1) (by decide) (by decide) k) ?_
        show Done p e below s _ _ _ (T101.setTop (mkF m 43 #[.val (.ref a1), .val (.long q2), .second, .val (.int i3), .val (.int i4), .val (.int (((i3 + i4).toUInt32 >>> ((1 : Int32) &&& 31).toUInt32).toInt32))] []))
        refine Done.step (fun t k => XS.iload X101.here hx rfl (hb hby d5_43) rfl k) ?_
        show Done p e below s _ _ _ (T101.setTop (mkF m 45 #[.val (.ref a1), .val (.long q2), .second, .val (.int i3), .val (.int i4), .val (.int (((i3 + i4).toUInt32 >>> ((1 : Int32) &&& 31).toUInt32).toInt32))] [(.int (((i3 + i4).toUInt32 >>> ((1 : Int32) &&& 31).toUInt32).toInt32))]))
        refine Done.step (fun t k => XS.istore X101.here hx rfl (hb hby d5_45) rfl (l' := #[.val (.ref a1), .val (.long q2), .second, .val (.int i3), .val (.int (((i3 + i4).toUInt32 >>> ((1 : Int32) &&& 31).toUInt32).toInt32)), .val (.int (((i3 + i4).toUInt32 >>> ((1 : Int32) &&& 31).toUInt32).toInt32))]) rfl k) ?_
        show Done p e below s _ _ _ (T101.setTop (mkF m 47 #[.val (.ref a1), .val (.long q2), .second, .val (.int i3), .val (.int (((i3 + i4).toUInt32 >>> ((1 : Int32) &&& 31).toUInt32).toInt32)), .val (.int (((i3 + i4).toUInt32 >>> ((1 : Int32) &&& 31).toUInt32).toInt32))] []))
        refine Done.step (fun t k => XS.goto X101.here hx rfl (pc0 := 47) (pc' := 9) rfl (hb hby d5_47) (by decide) (by decide) k) ?_
        show Done p e below s _ _ _ (T101.setTop (mkF m 9 #[.val (.ref a1), .val (.long q2), .second, .val (.int i3), .val (.int (((i3 + i4).toUInt32 >>> ((1 : Int32) &&& 31).toUInt32).toInt32)), .val (.int (((i3 + i4).toUInt32 >>> ((1 : Int32) &&& 31).toUInt32).toInt32))] []))
        have hxc := Int64.lt_iff_toInt_lt (x := q2) (y := xv)
        exact ih T101 _ i3 (((i3 + i4).toUInt32 >>> ((1 : Int32) &&& 31).toUInt32).toInt32) (.val (.int (((i3 + i4).toUInt32 >>> ((1 : Int32) &&& 31).toUInt32).toInt32))) X101 N0 Z0 e101 (Or.inr ⟨_, rfl⟩) (by omega) hi0 (by omega) (by omega) hlo (fun j x hj hq => by have := hasc _ _ _ _ hxv hj (by omega); have := hxc.mp c2; omega)
      · refine Done.step (fun t k => XS.ifNo X101.here hx rfl (hb hby d5_32) rfl ((if0 _ _).trans (flt (fun q_ => c2 ((lw_gt _ _).mp q_))).2.2.1) k) ?_
        show Done p e below s _ _ _ (T101.setTop (mkF m 35 #[.val (.ref a1), .val (.long q2), .second, .val (.int i3), .val (.int i4), .val (.int (((i3 + i4).toUInt32 >>> ((1 : Int32) &&& 31).toUInt32).toInt32))] []))
        refine Done.step (fun t k => XS.iload X101.here hx rfl (hb hby d5_35) rfl k) ?_
        show Done p e below s _ _ _ (T101.setTop (mkF m 37 #[.val (.ref a1), .val (.long q2), .second, .val (.int i3), .val (.int i4), .val (.int (((i3 + i4).toUInt32 >>> ((1 : Int32) &&& 31).toUInt32).toInt32))] [(.int (((i3 + i4).toUInt32 >>> ((1 : Int32) &&& 31).toUInt32).toInt32))]))
        refine Done.step (fun t k => XS.iconst X101.here hx rfl (hb hby d5_37) k) ?_
        show Done p e below s _ _ _ (T101.setTop (mkF m 38 #[.val (.ref a1), .val (.long q2), .second, .val (.int i3), .val (.int i4), .val (.int (((i3 + i4).toUInt32 >>> ((1 : Int32) &&& 31).toUInt32).toInt32))] [(.int (1 : Int32)), (.int (((i3 + i4).toUInt32 >>> ((1 : Int32) &&& 31).toUInt32).toInt32))]))
        refine Done.step (fun t k => XS.iadd X101.here hx rfl (hb hby d5_38) rfl k) ?_
        show Done p e below s _ _ _ (T101.setTop (mkF m 39 #[.val (.ref a1), .val (.long q2), .second, .val (.int i3), .val (.int i4), .val (.int (((i3 + i4).toUInt32 >>> ((1 : Int32) &&& 31).toUInt32).toInt32))] [(.int ((((i3 + i4).toUInt32 >>> ((1 : Int32) &&& 31).toUInt32).toInt32) + (1 : Int32)))]))
        refine Done.step (fun t k => XS.istoreN X101.here hx rfl (hb hby d5_39) rfl (l' := #[.val (.ref a1), .val (.long q2), .second, .val (.int ((((i3 + i4).toUInt32 >>> ((1 : Int32) &&& 31).toUInt32).toInt32) + (1 : Int32))), .val (.int i4), .val (.int (((i3 + i4).toUInt32 >>> ((1 : Int32) &&& 31).toUInt32).toInt32))]) rfl k) ?_
        show Done p e below s _ _ _ (T101.setTop (mkF m 40 #[.val (.ref a1), .val (.long q2), .second, .val (.int ((((i3 + i4).toUInt32 >>> ((1 : Int32) &&& 31).toUInt32).toInt32) + (1 : Int32))), .val (.int i4), .val (.int (((i3 + i4).toUInt32 >>> ((1 : Int32) &&& 31).toUInt32).toInt32))] []))
        refine Done.step (fun t k => XS.goto X101.here hx rfl (pc0 := 40) (pc' := 47) rfl (hb hby d5_40) (by decide) (by decide) k) ?_
        show Done p e below s _ _ _ (T101.setTop (mkF m 47 #[.val (.ref a1), .val (.long q2), .second, .val (.int ((((i3 + i4).toUInt32 >>> ((1 : Int32) &&& 31).toUInt32).toInt32) + (1 : Int32))), .val (.int i4), .val (.int (((i3 + i4).toUInt32 >>> ((1 : Int32) &&& 31).toUInt32).toInt32))] []))
        refine Done.step (fun t k => XS.goto X101.here hx rfl (pc0 := 47) (pc' := 9) rfl (hb hby d5_47) (by decide) (by decide) k) ?_
        show Done p e below s _ _ _ (T101.setTop (mkF m 9 #[.val (.ref a1), .val (.long q2), .second, .val (.int ((((i3 + i4).toUInt32 >>> ((1 : Int32) &&& 31).toUInt32).toInt32) + (1 : Int32))), .val (.int i4), .val (.int (((i3 + i4).toUInt32 >>> ((1 : Int32) &&& 31).toUInt32).toInt32))] []))
        have hxc := Int64.lt_iff_toInt_lt (x := q2) (y := xv)
        have hmp : ((((i3 + i4).toUInt32 >>> ((1 : Int32) &&& 31).toUInt32).toInt32) + (1 : Int32)).toInt = (i3.toInt + i4.toInt) / 2 + 1 := by have a := c_iadd (((i3 + i4).toUInt32 >>> ((1 : Int32) &&& 31).toUInt32).toInt32) (1 : Int32); have r := rng32 ((((i3 + i4).toUInt32 >>> ((1 : Int32) &&& 31).toUInt32).toInt32) + (1 : Int32)); have e1 : (1 : Int32).toInt = 1 := rfl; omega
        exact ih T101 _ ((((i3 + i4).toUInt32 >>> ((1 : Int32) &&& 31).toUInt32).toInt32) + (1 : Int32)) i4 (.val (.int (((i3 + i4).toUInt32 >>> ((1 : Int32) &&& 31).toUInt32).toInt32))) X101 N0 Z0 e101 (Or.inr ⟨_, rfl⟩) (by omega) (by omega) (by omega) hi2 (fun j x hj hq => by have := hasc _ _ _ _ hj hxv (by omega); have := Int.not_lt.mp (fun q => c2 (hxc.mpr q)); omega) hhi
    · refine Done.step (fun t k => XS.icmpYes X0.here hx rfl (pc0 := 12) (pc' := 50) rfl (hb hby d5_12) rfl (flt c1).2.1 (by decide) (by decide) k) ?_
      show Done p e below s _ _ _ (T.setTop (mkF m 50 #[.val (.ref a1), .val (.long q2), .second, .val (.int i3), .val (.int i4), s5] []))
      refine Done.step (fun t k => XS.iloadN X0.here hx rfl (hb hby d5_50) rfl k) ?_
      show Done p e below s _ _ _ (T.setTop (mkF m 51 #[.val (.ref a1), .val (.long q2), .second, .val (.int i3), .val (.int i4), s5] [(.int i3)]))
      have hge : i4.toInt ≤ i3.toInt := by have := Int.not_lt.mp (fun q => c1 (Int32.lt_iff_toInt_lt.mpr q)); omega
      exact Done.int X0 hx hlk hret (hb hby d5_51) (by decide) (by decide) ⟨⟨i3, rfl, hi0, by omega, hlo, fun j x hj hq => hhi j x hj (by omega)⟩, N0, e0⟩
theorem d5_0 : decode prog_33_method_4_code 0 = .ok (.iconst 0, 1) := by decide +kernel
theorem d5_1 : decode prog_33_method_4_code 1 = .ok (.istore_n 3, 1) := by decide +kernel
theorem d5_2 : decode prog_33_method_4_code 2 = .ok (.aload_n 0, 1) := by decide +kernel
theorem d5_3 : decode prog_33_method_4_code 3 = .ok (.getfield 25, 3) := by decide +kernel
theorem d5_6 : decode prog_33_method_4_code 6 = .ok (.arraylength, 1) := by decide +kernel
theorem d5_7 : decode prog_33_method_4_code 7 = .ok (.istore 4, 2) := by decide +kernel
theorem pn_5 : plainName "com/example/upkeep/upkeep/core/PageChanges" = true := by first | (simp [plainName, overriddenIn]; done) | decide +kernel
theorem ef_5 (m : MethodId) (a1 : Addr) (q2 : Int64) : entryFrame m #[(.ref a1), (.long q2)] 6 = mkF m 0 #[.val (.ref a1), .val (.long q2), .second, .unset, .unset, .unset] [] := by first | (simp [entryFrame, mkF, argsToLocals, Value.category]; done) | rfl
def Qrm5 (Z : State) (a1 : Addr) (q2 : Int64) (d7 : Addr) (xs : List Int64) (h0 : Heap) (n0 : Nat) : Option Value → Heap → List Loc → Prop := fun v h L => (∃ k : Int32, v = some (.int k) ∧ Up xs q2 k) ∧ Fr n0 L ∧ h = h0
set_option maxRecDepth 65536 in
set_option maxHeartbeats 40000000 in
theorem rm5 (l : Launch) (Z : State) (a0 : Array Value) (hw : ∀ d ∈ tables_1, d.before a0 Z = true) (ws : List Jvm.Cond) (a1 : Addr) (q2 : Int64) (d7 : Addr) (xs : List Int64) (h0 : Heap) (n0 : Nat) (Z0 : n0 ≤ h0.size) (F7 : Fld Z h0 a1 "com/example/upkeep/upkeep/core/PageChanges" "changes" "[J" (.ref d7)) (A7 : Ax Z h0 d7 .long (xs.map Value.long)) (hasc : Asc xs) (hlen : xs.length ≤ 4) :
    MetFree l (⟨"com/example/upkeep/upkeep/core/PageChanges", "versionAt", "(J)I"⟩ : MethodName) (head1 (Jvm.Cond.code (⟨"com/example/upkeep/upkeep/core/PageChanges", "versionAt", "(J)I"⟩ : MethodName) prog_33_method_4_code 6 (some .int) :: ws) ({ frames := 0, cells := 0, slots := 0, locals := 0 } : Room)) (fun a U => a = #[(.ref a1), (.long q2)] ∧ Z.Warmed39 U.vm ∧ U.heap = h0) (fun _ _ _ _ _ => True) (fun _ U o U' => ∃ v L, o = .returned v ∧ Qrm5 Z a1 q2 d7 xs h0 n0 v U'.heap L ∧ FrameEnd U o U' L ({ frames := 0, cells := 0, slots := 0, locals := 0 } : Room).cells ({ frames := 0, cells := 0, slots := 0, locals := 0 } : Room).slots) := by
  refine MetFree.of_bodySF (plainFor_of_name pn_5) hisR ?_
  intro p e s m args below meth c s₁ Bd hml0 hP hK
  obtain ⟨rfl, hZ, hh⟩ := hP
  have hx := Bd.exec
  have hby := Bd.bytes
  have hml : c.maxLocals = 6 := hml0
  have hown : s.vm.findClass "com/example/upkeep/upkeep/core/PageChanges" = some m.cls := findClass_of_methodNamed Bd.named
  have hnm := (name_of_methodNamed Bd.named Bd.method).1
  have hlk : meth.locks = false := BodyLoose.notSynchronized Bd
  have hret := Bd.returns
  have X0 : Stand p l e ({ frames := 0, cells := 0, slots := 0, locals := 0 } : Room) s m #[(.ref a1), (.long q2)] below meth c s₁ [] 0 0 := Stand.of_body Bd
  have e0 : s₁.heap = h0 := by rw [← hh, Bd.state]; rfl
  have N0 := Fr.nil n0
  show Done p e below s (Qrm5 Z a1 q2 d7 xs h0 n0) ({ frames := 0, cells := 0, slots := 0, locals := 0 } : Room).cells ({ frames := 0, cells := 0, slots := 0, locals := 0 } : Room).slots (s₁.setTop (entryFrame m #[(.ref a1), (.long q2)] 6))
  refine Done.step (fun t k => castTop (ef_5 m a1 q2) k) ?_
  show Done p e below s _ _ _ (s₁.setTop (mkF m 0 #[.val (.ref a1), .val (.long q2), .second, .unset, .unset, .unset] []))
  refine Done.step (fun t k => XS.iconst X0.here hx rfl (hb hby d5_0) k) ?_
  show Done p e below s _ _ _ (s₁.setTop (mkF m 1 #[.val (.ref a1), .val (.long q2), .second, .unset, .unset, .unset] [(.int (0 : Int32))]))
  refine Done.step (fun t k => XS.istoreN X0.here hx rfl (hb hby d5_1) rfl (l' := #[.val (.ref a1), .val (.long q2), .second, .val (.int (0 : Int32)), .unset, .unset]) rfl k) ?_
  show Done p e below s _ _ _ (s₁.setTop (mkF m 2 #[.val (.ref a1), .val (.long q2), .second, .val (.int (0 : Int32)), .unset, .unset] []))
  refine Done.step (fun t k => XS.aloadN X0.here hx rfl (hb hby d5_2) rfl rfl k) ?_
  show Done p e below s _ _ _ (s₁.setTop (mkF m 3 #[.val (.ref a1), .val (.long q2), .second, .val (.int (0 : Int32)), .unset, .unset] [(.ref a1)]))
  obtain ⟨T101, X101, e101, st101⟩ := getF X0 hx hZ hown (host := "") (Or.inl (hw _ (List.mem_of_getElem? (i := 27) rfl))) Via.refl e0 F7 (g := (mkF m 3 #[.val (.ref a1), .val (.long q2), .second, .val (.int (0 : Int32)), .unset, .unset] [(.ref a1)])) rfl rfl (hb hby d5_3)
  refine Done.step st101 ?_
  show Done p e below s _ _ _ (T101.setTop (mkF m 6 #[.val (.ref a1), .val (.long q2), .second, .val (.int (0 : Int32)), .unset, .unset] [(.ref d7)]))
  refine Done.step (lenA X101 hx hZ e101 A7 (n := xs.length.toInt32) (by rw [List.length_map]) (g := (mkF m 6 #[.val (.ref a1), .val (.long q2), .second, .val (.int (0 : Int32)), .unset, .unset] [(.ref d7)])) rfl rfl (hb hby d5_6)) ?_
  show Done p e below s _ _ _ (T101.setTop (mkF m 7 #[.val (.ref a1), .val (.long q2), .second, .val (.int (0 : Int32)), .unset, .unset] [(.int xs.length.toInt32)]))
  refine Done.step (fun t k => XS.istore X101.here hx rfl (hb hby d5_7) rfl (l' := #[.val (.ref a1), .val (.long q2), .second, .val (.int (0 : Int32)), .val (.int xs.length.toInt32), .unset]) rfl k) ?_
  show Done p e below s _ _ _ (T101.setTop (mkF m 9 #[.val (.ref a1), .val (.long q2), .second, .val (.int (0 : Int32)), .val (.int xs.length.toInt32), .unset] []))
  have hl3 : xs.length.toInt32.toInt = xs.length := len_toInt (by omega)
  exact lpv a1 q2 d7 xs hx hZ hw hby hml hown hlk hret hnm F7 A7 hasc hlen (xs.length + 1)  T101 _ (0 : Int32) xs.length.toInt32 .unset X101 N0 Z0 e101 (Or.inl rfl) (by rw [hl3]; show ((xs.length : Int) - 0).toNat < _; omega) (by decide) (by rw [hl3]; show (0 : Int) ≤ _; omega) (by omega) (fun j x _ hq => absurd hq (by show ¬ (j : Int) < (0 : Int); omega)) (fun j x hj hq => absurd (List.getElem?_eq_some_iff.mp hj).1 (by omega))
set_option maxRecDepth 65536 in
set_option maxHeartbeats 40000000 in
theorem blk284 {p : Program} {l : Launch} {e : Env} {s : State} {m : MethodId} {args : Array Value} {below : List Frame} {meth : Method} {c : Code} {T : State} {locs : List Loc} {Z : State} {a0 : Array Value} {h0 : Heap} {n0 : Nat} (p1 : Int32) (q2 q3 q4 q5 q6 : Int64) (b11 : Addr) (x12 : Int32) (r13 : Addr) (x14 : Int32) (e15 : Int64) (x17 : Int32) (t18 : Int64) (e20 : Int32) (xs : List Int64)
    (X0 : Stand p l e room_1 s m args below meth c T locs 2 8) (hx : p.tables.exec = Jvm.exec) (hZ : Z.Warmed39 s.vm) (hw : ∀ d ∈ tables_1, d.before a0 Z = true) (hby : c.code = code) (hml : c.maxLocals = 22) (hown : s.vm.findClass "com/example/upkeep/upkeep/core/PageChangesVersionAtPinLaw" = some m.cls) (hlk : meth.locks = false) (hret : meth.sig.returnType = ret) (hnm : meth.name = "law") (N0 : Fr n0 locs) (Z0 : n0 ≤ h0.size) (e0 : T.heap = h0) (A13 : Ax Z h0 r13 .long (xs.map Value.long)) (E13 : Exa Z h0 r13 "[J") (hlen : xs.length ≤ 4) (hpx : Pos xs) (hasc : Asc xs) (hexp : Up xs t18 e20) :
    Done p e below s (fun v h L => v = some (.int 1) ∧ Fr n0 L) room_1.cells room_1.slots (T.setTop (mkF m 284 #[.val (.int p1), .val (.long q2), .second, .val (.long q3), .second, .val (.long q4), .second, .val (.long q5), .second, .val (.long q6), .second, .val (.ref b11), .val (.int x12), .val (.ref r13), .val (.int x14), .val (.long e15), .second, .val (.int x17), .val (.long t18), .second, .val (.int e20), .unset] [])) := by
  show Done p e below s _ _ _ (T.setTop (mkF m 284 #[.val (.int p1), .val (.long q2), .second, .val (.long q3), .second, .val (.long q4), .second, .val (.long q5), .second, .val (.long q6), .second, .val (.ref b11), .val (.int x12), .val (.ref r13), .val (.int x14), .val (.long e15), .second, .val (.int x17), .val (.long t18), .second, .val (.int e20), .unset] []))
  obtain ⟨T101, h101, X101, e101, E101, A101, D101, -, st101⟩ := newO X0 hx hZ hown (hw _ (List.mem_of_getElem? (i := 9) rfl)) (hw _ (List.mem_of_getElem? (i := 10) rfl)) (hw _ (List.mem_of_getElem? (i := 11) rfl)) e0 (g := (mkF m 284 #[.val (.int p1), .val (.long q2), .second, .val (.long q3), .second, .val (.long q4), .second, .val (.long q5), .second, .val (.long q6), .second, .val (.ref b11), .val (.int x12), .val (.ref r13), .val (.int x14), .val (.long e15), .second, .val (.int x17), .val (.long t18), .second, .val (.int e20), .unset] [])) rfl (hb hby at_284) (by decide) (by decide)
  obtain ⟨b101, gq101⟩ : ∃ z, z = h0.size := ⟨_, rfl⟩
  rw [← gq101] at A101 D101 st101
  have ne102 : r13 ≠ b101 := Nat.ne_of_lt (Nat.lt_of_lt_of_le A13.lt (Nat.le_of_eq gq101.symm))
  have f103 : Ax Z h101 r13 .long (xs.map Value.long) := A13.ext E101
  have f104 : Exa Z h101 r13 "[J" := E13.ext E101
  have g_b101 : n0 ≤ b101 := Nat.le_trans Z0 (Nat.le_of_eq gq101.symm)
  have Z101 : n0 ≤ h101.size := Nat.le_trans Z0 E101.1
  have f105 : Fld Z h101 b101 "com/example/upkeep/upkeep/core/PageChanges" "changes" "[J" .null := D101 (Or.inr (hw _ (List.mem_of_getElem? (i := 28) rfl))) (ty := (.array .long)) (by decide)
  refine Done.step st101 ?_
  show Done p e below s _ _ _ (T101.setTop (mkF m 287 #[.val (.int p1), .val (.long q2), .second, .val (.long q3), .second, .val (.long q4), .second, .val (.long q5), .second, .val (.long q6), .second, .val (.ref b11), .val (.int x12), .val (.ref r13), .val (.int x14), .val (.long e15), .second, .val (.int x17), .val (.long t18), .second, .val (.int e20), .unset] [(.ref b101)]))
  refine Done.step (fun t k => XS.dup X101.here hx rfl (hb hby at_287) rfl rfl k) ?_
  show Done p e below s _ _ _ (T101.setTop (mkF m 288 #[.val (.int p1), .val (.long q2), .second, .val (.long q3), .second, .val (.long q4), .second, .val (.long q5), .second, .val (.long q6), .second, .val (.ref b11), .val (.int x12), .val (.ref r13), .val (.int x14), .val (.long e15), .second, .val (.int x17), .val (.long t18), .second, .val (.int e20), .unset] [(.ref b101), (.ref b101)]))
  refine Done.step (fun t k => XS.aload X101.here hx rfl (hb hby at_288) rfl rfl k) ?_
  show Done p e below s _ _ _ (T101.setTop (mkF m 290 #[.val (.int p1), .val (.long q2), .second, .val (.long q3), .second, .val (.long q4), .second, .val (.long q5), .second, .val (.long q6), .second, .val (.ref b11), .val (.int x12), .val (.ref r13), .val (.int x14), .val (.long e15), .second, .val (.int x17), .val (.long t18), .second, .val (.int e20), .unset] [(.ref r13), (.ref b101), (.ref b101)]))
  obtain ⟨v106, _, ⟨T106, L106, k106, n106⟩, -, X106, ⟨Lc106, hQ106, l106, y106, z106⟩, st106⟩ := X101.specialBack hx (y := (⟨"com/example/upkeep/upkeep/core/PageChanges", "<init>", "([J)V"⟩ : MethodName)) rfl hown (mvT hZ (hw _ (List.mem_of_getElem? (i := 12) rfl))) (mvT hZ (hw _ (List.mem_of_getElem? (i := 13) rfl))) (mvT hZ (hw _ (List.mem_of_getElem? (i := 14) rfl))) (by decide) (backOf (W := 1) (rm3 l Z a0 hw [] b101 r13 xs h101 n0 Z101 A101 f105 g_b101 f104 f103 hlen hpx hasc) hZ (hw _ (List.mem_of_getElem? (i := 14) rfl)) (hw _ (List.mem_of_getElem? (i := 11) rfl)) (by decide) (by decide)) (g := (mkF m 290 #[.val (.int p1), .val (.long q2), .second, .val (.long q3), .second, .val (.long q4), .second, .val (.long q5), .second, .val (.long q6), .second, .val (.ref b11), .val (.int x12), .val (.ref r13), .val (.int x14), .val (.long e15), .second, .val (.int x17), .val (.long t18), .second, .val (.int e20), .unset] [(.ref r13), (.ref b101), (.ref b101)])) rfl (by rw [hml]; rfl) (Steps.refl _) (a := b101) (argsL := [(.ref r13)]) (rest := [(.ref b101)]) (lenOf pd_0 rfl) rfl (by show 2 * 0 + _ ≤ _; exact Nat.le_of_eq rfl) (hb hby at_290) (fun _ _ => ⟨rfl, e101, (by decide : 3 + 1 ≤ _), (by decide : 9 + 4 ≤ _)⟩)
  dsimp only [Pt.U, Pt.locs, Pt.cells, Pt.slots] at X106 l106 y106 z106 st106 hQ106
  subst l106 y106 z106
  refine Done.far st106 ?_
  obtain ⟨rfl, N106q, K106q, x106, d106, y106, z106v, w106⟩ := hQ106
  have N106 := Fr.app N0 N106q
  have f107 : Ax Z T106.heap r13 .long (xs.map Value.long) := f103.keep K106q (ninS ne102 nin0)
  have f108 : Exa Z T106.heap r13 "[J" := f104.keep K106q
  have f109 : Exa Z T106.heap b101 "com/example/upkeep/upkeep/core/PageChanges" := A101.keep K106q
  have Zk106 : n0 ≤ T106.heap.size := Nat.le_trans Z101 K106q.1
  show Done p e below s _ _ _ (T106.setTop (mkF m 293 #[.val (.int p1), .val (.long q2), .second, .val (.long q3), .second, .val (.long q4), .second, .val (.long q5), .second, .val (.long q6), .second, .val (.ref b11), .val (.int x12), .val (.ref r13), .val (.int x14), .val (.long e15), .second, .val (.int x17), .val (.long t18), .second, .val (.int e20), .unset] [(.ref b101)]))
  refine Done.step (fun t k => XS.astore X106.here hx rfl (hb hby at_293) rfl rfl (l' := #[.val (.int p1), .val (.long q2), .second, .val (.long q3), .second, .val (.long q4), .second, .val (.long q5), .second, .val (.long q6), .second, .val (.ref b11), .val (.int x12), .val (.ref r13), .val (.int x14), .val (.long e15), .second, .val (.int x17), .val (.long t18), .second, .val (.int e20), .val (.ref b101)]) rfl k) ?_
  show Done p e below s _ _ _ (T106.setTop (mkF m 295 #[.val (.int p1), .val (.long q2), .second, .val (.long q3), .second, .val (.long q4), .second, .val (.long q5), .second, .val (.long q6), .second, .val (.ref b11), .val (.int x12), .val (.ref r13), .val (.int x14), .val (.long e15), .second, .val (.int x17), .val (.long t18), .second, .val (.int e20), .val (.ref b101)] []))
  refine Done.step (fun t k => XS.aload X106.here hx rfl (hb hby at_295) rfl rfl k) ?_
  show Done p e below s _ _ _ (T106.setTop (mkF m 297 #[.val (.int p1), .val (.long q2), .second, .val (.long q3), .second, .val (.long q4), .second, .val (.long q5), .second, .val (.long q6), .second, .val (.ref b11), .val (.int x12), .val (.ref r13), .val (.int x14), .val (.long e15), .second, .val (.int x17), .val (.long t18), .second, .val (.int e20), .val (.ref b101)] [(.ref b101)]))
  refine Done.step (fun t k => XS.lload X106.here hx rfl (hb hby at_297) rfl k) ?_
  show Done p e below s _ _ _ (T106.setTop (mkF m 299 #[.val (.int p1), .val (.long q2), .second, .val (.long q3), .second, .val (.long q4), .second, .val (.long q5), .second, .val (.long q6), .second, .val (.ref b11), .val (.int x12), .val (.ref r13), .val (.int x14), .val (.long e15), .second, .val (.int x17), .val (.long t18), .second, .val (.int e20), .val (.ref b101)] [(.long t18), (.ref b101)]))
  obtain ⟨cq110, kq110, q110a, q110b, q110c⟩ := isOf hZ rfl f109
  obtain ⟨v110, _, ⟨T110, L110, k110, n110⟩, -, X110, ⟨Lc110, hQ110, l110, y110, z110⟩, st110⟩ := X106.virtualBack hx (y := (⟨"com/example/upkeep/upkeep/core/PageChanges", "versionAt", "(J)I"⟩ : MethodName)) (z := (⟨"com/example/upkeep/upkeep/core/PageChanges", "versionAt", "(J)I"⟩ : MethodName)) hown (mvT hZ (hw _ (List.mem_of_getElem? (i := 29) rfl))) (mvT hZ (hw _ (List.mem_of_getElem? (i := 30) rfl))) (notFace_of_selects (args := #[]) (mvT hZ (hw _ (List.mem_of_getElem? (i := 32) rfl)))) (mvT hZ (hw _ (List.mem_of_getElem? (i := 32) rfl))) (mvT hZ (hw _ (List.mem_of_getElem? (i := 31) rfl))) (by decide) (backOf (W := 0) (rm5 l Z a0 hw [] b101 t18 d106 xs T106.heap n0 Zk106 y106 z106v hasc hlen) hZ (hw _ (List.mem_of_getElem? (i := 33) rfl)) (hw _ (List.mem_of_getElem? (i := 11) rfl)) (by decide) (by decide)) q110a q110c (g := (mkF m 299 #[.val (.int p1), .val (.long q2), .second, .val (.long q3), .second, .val (.long q4), .second, .val (.long q5), .second, .val (.long q6), .second, .val (.ref b11), .val (.int x12), .val (.ref r13), .val (.int x14), .val (.long e15), .second, .val (.int x17), .val (.long t18), .second, .val (.int e20), .val (.ref b101)] [(.long t18), (.ref b101)])) rfl (by rw [hml]; rfl) (Steps.refl _) (argsL := [(.long t18)]) (rest := []) (lenOf pd_1 rfl) rfl (by show 2 * 0 + _ ≤ _; exact Nat.le_of_eq rfl) (hb hby at_299) (fun _ _ => ⟨rfl, rfl, (by decide : 4 + 0 ≤ _), (by decide : 13 + 0 ≤ _)⟩)
  dsimp only [Pt.U, Pt.locs, Pt.cells, Pt.slots] at X110 l110 y110 z110 st110 hQ110
  subst l110 y110 z110
  refine Done.far st110 ?_
  obtain ⟨⟨kk, rfl, hup⟩, N110q, e110⟩ := hQ110
  have N110 := Fr.app N106 N110q
  show Done p e below s _ _ _ (T110.setTop (mkF m 302 #[.val (.int p1), .val (.long q2), .second, .val (.long q3), .second, .val (.long q4), .second, .val (.long q5), .second, .val (.long q6), .second, .val (.ref b11), .val (.int x12), .val (.ref r13), .val (.int x14), .val (.long e15), .second, .val (.int x17), .val (.long t18), .second, .val (.int e20), .val (.ref b101)] [(.int kk)]))
  refine Done.step (fun t k => XS.iload X110.here hx rfl (hb hby at_302) rfl k) ?_
  show Done p e below s _ _ _ (T110.setTop (mkF m 304 #[.val (.int p1), .val (.long q2), .second, .val (.long q3), .second, .val (.long q4), .second, .val (.long q5), .second, .val (.long q6), .second, .val (.ref b11), .val (.int x12), .val (.ref r13), .val (.int x14), .val (.long e15), .second, .val (.int x17), .val (.long t18), .second, .val (.int e20), .val (.ref b101)] [(.int e20), (.int kk)]))
  refine Done.step (fun t k => XS.icmpNo X110.here hx rfl (hb hby at_304) rfl (teq (hup.uniq hexp)).2 k) ?_
  show Done p e below s _ _ _ (T110.setTop (mkF m 307 #[.val (.int p1), .val (.long q2), .second, .val (.long q3), .second, .val (.long q4), .second, .val (.long q5), .second, .val (.long q6), .second, .val (.ref b11), .val (.int x12), .val (.ref r13), .val (.int x14), .val (.long e15), .second, .val (.int x17), .val (.long t18), .second, .val (.int e20), .val (.ref b101)] []))
  refine Done.step (fun t k => XS.iconst X110.here hx rfl (hb hby at_307) k) ?_
  show Done p e below s _ _ _ (T110.setTop (mkF m 308 #[.val (.int p1), .val (.long q2), .second, .val (.long q3), .second, .val (.long q4), .second, .val (.long q5), .second, .val (.long q6), .second, .val (.ref b11), .val (.int x12), .val (.ref r13), .val (.int x14), .val (.long e15), .second, .val (.int x17), .val (.long t18), .second, .val (.int e20), .val (.ref b101)] [(.int (1 : Int32))]))
  refine Done.step (fun t k => XS.goto X110.here hx rfl (pc0 := 308) (pc' := 312) rfl (hb hby at_308) (by decide) (by decide) k) ?_
  show Done p e below s _ _ _ (T110.setTop (mkF m 312 #[.val (.int p1), .val (.long q2), .second, .val (.long q3), .second, .val (.long q4), .second, .val (.long q5), .second, .val (.long q6), .second, .val (.ref b11), .val (.int x12), .val (.ref r13), .val (.int x14), .val (.long e15), .second, .val (.int x17), .val (.long t18), .second, .val (.int e20), .val (.ref b101)] [(.int (1 : Int32))]))
  exact Done.narr X110 hx hlk hret (by simp) (hb hby at_312) (by decide) (by decide) ⟨rfl, N110⟩
theorem own_mk0 (y0 y1 y2 y3 : Int64) : (PFX (0 : Int32) y0 y1 y2 y3) = [] := rfl
theorem own_asc0 (y0 y1 y2 y3 : Int64) (hy : 0 ≤ y0.toInt ∧ y0.toInt ≤ y1.toInt ∧ y1.toInt ≤ y2.toInt ∧ y2.toInt ≤ y3.toInt) : Asc (PFX (0 : Int32) y0 y1 y2 y3) := by
  obtain ⟨h0, h1, h2, h3⟩ := hy
  intro i j x y hi hj hij
  rw [own_mk0] at hi hj
  exact absurd hi (by simp)
theorem own_pos0 (y0 y1 y2 y3 : Int64) (hy : 0 ≤ y0.toInt ∧ y0.toInt ≤ y1.toInt ∧ y1.toInt ≤ y2.toInt ∧ y2.toInt ≤ y3.toInt) : Pos (PFX (0 : Int32) y0 y1 y2 y3) := by
  obtain ⟨h0, h1, h2, h3⟩ := hy
  intro i x hi
  rw [own_mk0] at hi
  exact absurd hi (by simp)
theorem own_mk1 (y0 y1 y2 y3 : Int64) : (PFX (1 : Int32) y0 y1 y2 y3) = [y0] := rfl
theorem own_asc1 (y0 y1 y2 y3 : Int64) (hy : 0 ≤ y0.toInt ∧ y0.toInt ≤ y1.toInt ∧ y1.toInt ≤ y2.toInt ∧ y2.toInt ≤ y3.toInt) : Asc (PFX (1 : Int32) y0 y1 y2 y3) := by
  obtain ⟨h0, h1, h2, h3⟩ := hy
  intro i j x y hi hj hij
  rw [own_mk1] at hi hj
  match i, j, hi, hj, hij with
  | 0, 0, hi, hj, _ => cases hi; cases hj; omega
  | (a + 1), _, hi, _, _ => exact absurd hi (by simp)
  | _, (a + 1), _, hj, _ => exact absurd hj (by simp)
theorem own_pos1 (y0 y1 y2 y3 : Int64) (hy : 0 ≤ y0.toInt ∧ y0.toInt ≤ y1.toInt ∧ y1.toInt ≤ y2.toInt ∧ y2.toInt ≤ y3.toInt) : Pos (PFX (1 : Int32) y0 y1 y2 y3) := by
  obtain ⟨h0, h1, h2, h3⟩ := hy
  intro i x hi
  rw [own_mk1] at hi
  match i, hi with
  | 0, hi => cases hi; omega
  | (a + 1), hi => exact absurd hi (by simp)
theorem own_mk2 (y0 y1 y2 y3 : Int64) : (PFX (2 : Int32) y0 y1 y2 y3) = [y0, y1] := rfl
theorem own_asc2 (y0 y1 y2 y3 : Int64) (hy : 0 ≤ y0.toInt ∧ y0.toInt ≤ y1.toInt ∧ y1.toInt ≤ y2.toInt ∧ y2.toInt ≤ y3.toInt) : Asc (PFX (2 : Int32) y0 y1 y2 y3) := by
  obtain ⟨h0, h1, h2, h3⟩ := hy
  intro i j x y hi hj hij
  rw [own_mk2] at hi hj
  match i, j, hi, hj, hij with
  | 0, 0, hi, hj, _ => cases hi; cases hj; omega
  | 0, 1, hi, hj, _ => cases hi; cases hj; omega
  | 1, 1, hi, hj, _ => cases hi; cases hj; omega
  | 1, 0, _, _, h => exact absurd h (by decide)
  | (a + 2), _, hi, _, _ => exact absurd hi (by simp)
  | _, (a + 2), _, hj, _ => exact absurd hj (by simp)
theorem own_pos2 (y0 y1 y2 y3 : Int64) (hy : 0 ≤ y0.toInt ∧ y0.toInt ≤ y1.toInt ∧ y1.toInt ≤ y2.toInt ∧ y2.toInt ≤ y3.toInt) : Pos (PFX (2 : Int32) y0 y1 y2 y3) := by
  obtain ⟨h0, h1, h2, h3⟩ := hy
  intro i x hi
  rw [own_mk2] at hi
  match i, hi with
  | 0, hi => cases hi; omega
  | 1, hi => cases hi; omega
  | (a + 2), hi => exact absurd hi (by simp)
theorem own_mk3 (y0 y1 y2 y3 : Int64) : (PFX (3 : Int32) y0 y1 y2 y3) = [y0, y1, y2] := rfl
theorem own_asc3 (y0 y1 y2 y3 : Int64) (hy : 0 ≤ y0.toInt ∧ y0.toInt ≤ y1.toInt ∧ y1.toInt ≤ y2.toInt ∧ y2.toInt ≤ y3.toInt) : Asc (PFX (3 : Int32) y0 y1 y2 y3) := by
  obtain ⟨h0, h1, h2, h3⟩ := hy
  intro i j x y hi hj hij
  rw [own_mk3] at hi hj
  match i, j, hi, hj, hij with
  | 0, 0, hi, hj, _ => cases hi; cases hj; omega
  | 0, 1, hi, hj, _ => cases hi; cases hj; omega
  | 0, 2, hi, hj, _ => cases hi; cases hj; omega
  | 1, 1, hi, hj, _ => cases hi; cases hj; omega
  | 1, 2, hi, hj, _ => cases hi; cases hj; omega
  | 1, 0, _, _, h => exact absurd h (by decide)
  | 2, 2, hi, hj, _ => cases hi; cases hj; omega
  | 2, 0, _, _, h => exact absurd h (by decide)
  | 2, 1, _, _, h => exact absurd h (by decide)
  | (a + 3), _, hi, _, _ => exact absurd hi (by simp)
  | _, (a + 3), _, hj, _ => exact absurd hj (by simp)
theorem own_pos3 (y0 y1 y2 y3 : Int64) (hy : 0 ≤ y0.toInt ∧ y0.toInt ≤ y1.toInt ∧ y1.toInt ≤ y2.toInt ∧ y2.toInt ≤ y3.toInt) : Pos (PFX (3 : Int32) y0 y1 y2 y3) := by
  obtain ⟨h0, h1, h2, h3⟩ := hy
  intro i x hi
  rw [own_mk3] at hi
  match i, hi with
  | 0, hi => cases hi; omega
  | 1, hi => cases hi; omega
  | 2, hi => cases hi; omega
  | (a + 3), hi => exact absurd hi (by simp)
theorem own_mk4 (y0 y1 y2 y3 : Int64) : (PFX (4 : Int32) y0 y1 y2 y3) = [y0, y1, y2, y3] := rfl
theorem own_asc4 (y0 y1 y2 y3 : Int64) (hy : 0 ≤ y0.toInt ∧ y0.toInt ≤ y1.toInt ∧ y1.toInt ≤ y2.toInt ∧ y2.toInt ≤ y3.toInt) : Asc (PFX (4 : Int32) y0 y1 y2 y3) := by
  obtain ⟨h0, h1, h2, h3⟩ := hy
  intro i j x y hi hj hij
  rw [own_mk4] at hi hj
  match i, j, hi, hj, hij with
  | 0, 0, hi, hj, _ => cases hi; cases hj; omega
  | 0, 1, hi, hj, _ => cases hi; cases hj; omega
  | 0, 2, hi, hj, _ => cases hi; cases hj; omega
  | 0, 3, hi, hj, _ => cases hi; cases hj; omega
  | 1, 1, hi, hj, _ => cases hi; cases hj; omega
  | 1, 2, hi, hj, _ => cases hi; cases hj; omega
  | 1, 3, hi, hj, _ => cases hi; cases hj; omega
  | 1, 0, _, _, h => exact absurd h (by decide)
  | 2, 2, hi, hj, _ => cases hi; cases hj; omega
  | 2, 3, hi, hj, _ => cases hi; cases hj; omega
  | 2, 0, _, _, h => exact absurd h (by decide)
  | 2, 1, _, _, h => exact absurd h (by decide)
  | 3, 3, hi, hj, _ => cases hi; cases hj; omega
  | 3, 0, _, _, h => exact absurd h (by decide)
  | 3, 1, _, _, h => exact absurd h (by decide)
  | 3, 2, _, _, h => exact absurd h (by decide)
  | (a + 4), _, hi, _, _ => exact absurd hi (by simp)
  | _, (a + 4), _, hj, _ => exact absurd hj (by simp)
theorem own_pos4 (y0 y1 y2 y3 : Int64) (hy : 0 ≤ y0.toInt ∧ y0.toInt ≤ y1.toInt ∧ y1.toInt ≤ y2.toInt ∧ y2.toInt ≤ y3.toInt) : Pos (PFX (4 : Int32) y0 y1 y2 y3) := by
  obtain ⟨h0, h1, h2, h3⟩ := hy
  intro i x hi
  rw [own_mk4] at hi
  match i, hi with
  | 0, hi => cases hi; omega
  | 1, hi => cases hi; omega
  | 2, hi => cases hi; omega
  | 3, hi => cases hi; omega
  | (a + 4), hi => exact absurd hi (by simp)
theorem own_up0_0 (y0 y1 y2 y3 t : Int64) (hy : 0 ≤ y0.toInt ∧ y0.toInt ≤ y1.toInt ∧ y1.toInt ≤ y2.toInt ∧ y2.toInt ≤ y3.toInt)  : Up (PFX (0 : Int32) y0 y1 y2 y3) t (0 : Int32) := by
  obtain ⟨h0, h1, h2, h3⟩ := hy
  have ek : ((0 : Int32)).toInt = 0 := rfl
  rw [own_mk0]
  refine ⟨by omega, by rw [ek]; simp, ?_, ?_⟩
  · intro j x hj hq
    rw [ek] at hq
    exact absurd hj (by simp)
  · intro j x hj hq
    rw [ek] at hq
    exact absurd hj (by simp)
theorem own_up1_0 (y0 y1 y2 y3 t : Int64) (hy : 0 ≤ y0.toInt ∧ y0.toInt ≤ y1.toInt ∧ y1.toInt ≤ y2.toInt ∧ y2.toInt ≤ y3.toInt) (u : t.toInt < y0.toInt) : Up (PFX (1 : Int32) y0 y1 y2 y3) t (0 : Int32) := by
  obtain ⟨h0, h1, h2, h3⟩ := hy
  have ek : ((0 : Int32)).toInt = 0 := rfl
  rw [own_mk1]
  refine ⟨by omega, by rw [ek]; simp, ?_, ?_⟩
  · intro j x hj hq
    rw [ek] at hq
    match j, hj, hq with
    | 0, hj, hq => cases hj; omega
    | (a + 1), hj, _ => exact absurd hj (by simp)
  · intro j x hj hq
    rw [ek] at hq
    match j, hj, hq with
    | 0, hj, hq => cases hj; omega
    | (a + 1), hj, _ => exact absurd hj (by simp)
theorem own_up1_1 (y0 y1 y2 y3 t : Int64) (hy : 0 ≤ y0.toInt ∧ y0.toInt ≤ y1.toInt ∧ y1.toInt ≤ y2.toInt ∧ y2.toInt ≤ y3.toInt) (l0 : y0.toInt ≤ t.toInt) : Up (PFX (1 : Int32) y0 y1 y2 y3) t ((0 : Int32) + (1 : Int32)) := by
  obtain ⟨h0, h1, h2, h3⟩ := hy
  have ek : (((0 : Int32) + (1 : Int32))).toInt = 1 := rfl
  rw [own_mk1]
  refine ⟨by omega, by rw [ek]; simp, ?_, ?_⟩
  · intro j x hj hq
    rw [ek] at hq
    match j, hj, hq with
    | 0, hj, hq => cases hj; omega
    | (a + 1), hj, _ => exact absurd hj (by simp)
  · intro j x hj hq
    rw [ek] at hq
    match j, hj, hq with
    | 0, hj, hq => cases hj; omega
    | (a + 1), hj, _ => exact absurd hj (by simp)
theorem own_up2_0 (y0 y1 y2 y3 t : Int64) (hy : 0 ≤ y0.toInt ∧ y0.toInt ≤ y1.toInt ∧ y1.toInt ≤ y2.toInt ∧ y2.toInt ≤ y3.toInt) (u : t.toInt < y0.toInt) : Up (PFX (2 : Int32) y0 y1 y2 y3) t (0 : Int32) := by
  obtain ⟨h0, h1, h2, h3⟩ := hy
  have ek : ((0 : Int32)).toInt = 0 := rfl
  rw [own_mk2]
  refine ⟨by omega, by rw [ek]; simp, ?_, ?_⟩
  · intro j x hj hq
    rw [ek] at hq
    match j, hj, hq with
    | 0, hj, hq => cases hj; omega
    | 1, hj, hq => cases hj; omega
    | (a + 2), hj, _ => exact absurd hj (by simp)
  · intro j x hj hq
    rw [ek] at hq
    match j, hj, hq with
    | 0, hj, hq => cases hj; omega
    | 1, hj, hq => cases hj; omega
    | (a + 2), hj, _ => exact absurd hj (by simp)
theorem own_up2_1 (y0 y1 y2 y3 t : Int64) (hy : 0 ≤ y0.toInt ∧ y0.toInt ≤ y1.toInt ∧ y1.toInt ≤ y2.toInt ∧ y2.toInt ≤ y3.toInt) (l0 : y0.toInt ≤ t.toInt) (u : t.toInt < y1.toInt) : Up (PFX (2 : Int32) y0 y1 y2 y3) t ((0 : Int32) + (1 : Int32)) := by
  obtain ⟨h0, h1, h2, h3⟩ := hy
  have ek : (((0 : Int32) + (1 : Int32))).toInt = 1 := rfl
  rw [own_mk2]
  refine ⟨by omega, by rw [ek]; simp, ?_, ?_⟩
  · intro j x hj hq
    rw [ek] at hq
    match j, hj, hq with
    | 0, hj, hq => cases hj; omega
    | 1, hj, hq => cases hj; omega
    | (a + 2), hj, _ => exact absurd hj (by simp)
  · intro j x hj hq
    rw [ek] at hq
    match j, hj, hq with
    | 0, hj, hq => cases hj; omega
    | 1, hj, hq => cases hj; omega
    | (a + 2), hj, _ => exact absurd hj (by simp)
theorem own_up2_2 (y0 y1 y2 y3 t : Int64) (hy : 0 ≤ y0.toInt ∧ y0.toInt ≤ y1.toInt ∧ y1.toInt ≤ y2.toInt ∧ y2.toInt ≤ y3.toInt) (l0 : y0.toInt ≤ t.toInt) (l1 : y1.toInt ≤ t.toInt) : Up (PFX (2 : Int32) y0 y1 y2 y3) t (((0 : Int32) + (1 : Int32)) + (1 : Int32)) := by
  obtain ⟨h0, h1, h2, h3⟩ := hy
  have ek : ((((0 : Int32) + (1 : Int32)) + (1 : Int32))).toInt = 2 := rfl
  rw [own_mk2]
  refine ⟨by omega, by rw [ek]; simp, ?_, ?_⟩
  · intro j x hj hq
    rw [ek] at hq
    match j, hj, hq with
    | 0, hj, hq => cases hj; omega
    | 1, hj, hq => cases hj; omega
    | (a + 2), hj, _ => exact absurd hj (by simp)
  · intro j x hj hq
    rw [ek] at hq
    match j, hj, hq with
    | 0, hj, hq => cases hj; omega
    | 1, hj, hq => cases hj; omega
    | (a + 2), hj, _ => exact absurd hj (by simp)
theorem own_up3_0 (y0 y1 y2 y3 t : Int64) (hy : 0 ≤ y0.toInt ∧ y0.toInt ≤ y1.toInt ∧ y1.toInt ≤ y2.toInt ∧ y2.toInt ≤ y3.toInt) (u : t.toInt < y0.toInt) : Up (PFX (3 : Int32) y0 y1 y2 y3) t (0 : Int32) := by
  obtain ⟨h0, h1, h2, h3⟩ := hy
  have ek : ((0 : Int32)).toInt = 0 := rfl
  rw [own_mk3]
  refine ⟨by omega, by rw [ek]; simp, ?_, ?_⟩
  · intro j x hj hq
    rw [ek] at hq
    match j, hj, hq with
    | 0, hj, hq => cases hj; omega
    | 1, hj, hq => cases hj; omega
    | 2, hj, hq => cases hj; omega
    | (a + 3), hj, _ => exact absurd hj (by simp)
  · intro j x hj hq
    rw [ek] at hq
    match j, hj, hq with
    | 0, hj, hq => cases hj; omega
    | 1, hj, hq => cases hj; omega
    | 2, hj, hq => cases hj; omega
    | (a + 3), hj, _ => exact absurd hj (by simp)
theorem own_up3_1 (y0 y1 y2 y3 t : Int64) (hy : 0 ≤ y0.toInt ∧ y0.toInt ≤ y1.toInt ∧ y1.toInt ≤ y2.toInt ∧ y2.toInt ≤ y3.toInt) (l0 : y0.toInt ≤ t.toInt) (u : t.toInt < y1.toInt) : Up (PFX (3 : Int32) y0 y1 y2 y3) t ((0 : Int32) + (1 : Int32)) := by
  obtain ⟨h0, h1, h2, h3⟩ := hy
  have ek : (((0 : Int32) + (1 : Int32))).toInt = 1 := rfl
  rw [own_mk3]
  refine ⟨by omega, by rw [ek]; simp, ?_, ?_⟩
  · intro j x hj hq
    rw [ek] at hq
    match j, hj, hq with
    | 0, hj, hq => cases hj; omega
    | 1, hj, hq => cases hj; omega
    | 2, hj, hq => cases hj; omega
    | (a + 3), hj, _ => exact absurd hj (by simp)
  · intro j x hj hq
    rw [ek] at hq
    match j, hj, hq with
    | 0, hj, hq => cases hj; omega
    | 1, hj, hq => cases hj; omega
    | 2, hj, hq => cases hj; omega
    | (a + 3), hj, _ => exact absurd hj (by simp)
theorem own_up3_2 (y0 y1 y2 y3 t : Int64) (hy : 0 ≤ y0.toInt ∧ y0.toInt ≤ y1.toInt ∧ y1.toInt ≤ y2.toInt ∧ y2.toInt ≤ y3.toInt) (l0 : y0.toInt ≤ t.toInt) (l1 : y1.toInt ≤ t.toInt) (u : t.toInt < y2.toInt) : Up (PFX (3 : Int32) y0 y1 y2 y3) t (((0 : Int32) + (1 : Int32)) + (1 : Int32)) := by
  obtain ⟨h0, h1, h2, h3⟩ := hy
  have ek : ((((0 : Int32) + (1 : Int32)) + (1 : Int32))).toInt = 2 := rfl
  rw [own_mk3]
  refine ⟨by omega, by rw [ek]; simp, ?_, ?_⟩
  · intro j x hj hq
    rw [ek] at hq
    match j, hj, hq with
    | 0, hj, hq => cases hj; omega
    | 1, hj, hq => cases hj; omega
    | 2, hj, hq => cases hj; omega
    | (a + 3), hj, _ => exact absurd hj (by simp)
  · intro j x hj hq
    rw [ek] at hq
    match j, hj, hq with
    | 0, hj, hq => cases hj; omega
    | 1, hj, hq => cases hj; omega
    | 2, hj, hq => cases hj; omega
    | (a + 3), hj, _ => exact absurd hj (by simp)
theorem own_up3_3 (y0 y1 y2 y3 t : Int64) (hy : 0 ≤ y0.toInt ∧ y0.toInt ≤ y1.toInt ∧ y1.toInt ≤ y2.toInt ∧ y2.toInt ≤ y3.toInt) (l0 : y0.toInt ≤ t.toInt) (l1 : y1.toInt ≤ t.toInt) (l2 : y2.toInt ≤ t.toInt) : Up (PFX (3 : Int32) y0 y1 y2 y3) t ((((0 : Int32) + (1 : Int32)) + (1 : Int32)) + (1 : Int32)) := by
  obtain ⟨h0, h1, h2, h3⟩ := hy
  have ek : (((((0 : Int32) + (1 : Int32)) + (1 : Int32)) + (1 : Int32))).toInt = 3 := rfl
  rw [own_mk3]
  refine ⟨by omega, by rw [ek]; simp, ?_, ?_⟩
  · intro j x hj hq
    rw [ek] at hq
    match j, hj, hq with
    | 0, hj, hq => cases hj; omega
    | 1, hj, hq => cases hj; omega
    | 2, hj, hq => cases hj; omega
    | (a + 3), hj, _ => exact absurd hj (by simp)
  · intro j x hj hq
    rw [ek] at hq
    match j, hj, hq with
    | 0, hj, hq => cases hj; omega
    | 1, hj, hq => cases hj; omega
    | 2, hj, hq => cases hj; omega
    | (a + 3), hj, _ => exact absurd hj (by simp)
theorem own_up4_0 (y0 y1 y2 y3 t : Int64) (hy : 0 ≤ y0.toInt ∧ y0.toInt ≤ y1.toInt ∧ y1.toInt ≤ y2.toInt ∧ y2.toInt ≤ y3.toInt) (u : t.toInt < y0.toInt) : Up (PFX (4 : Int32) y0 y1 y2 y3) t (0 : Int32) := by
  obtain ⟨h0, h1, h2, h3⟩ := hy
  have ek : ((0 : Int32)).toInt = 0 := rfl
  rw [own_mk4]
  refine ⟨by omega, by rw [ek]; simp, ?_, ?_⟩
  · intro j x hj hq
    rw [ek] at hq
    match j, hj, hq with
    | 0, hj, hq => cases hj; omega
    | 1, hj, hq => cases hj; omega
    | 2, hj, hq => cases hj; omega
    | 3, hj, hq => cases hj; omega
    | (a + 4), hj, _ => exact absurd hj (by simp)
  · intro j x hj hq
    rw [ek] at hq
    match j, hj, hq with
    | 0, hj, hq => cases hj; omega
    | 1, hj, hq => cases hj; omega
    | 2, hj, hq => cases hj; omega
    | 3, hj, hq => cases hj; omega
    | (a + 4), hj, _ => exact absurd hj (by simp)
theorem own_up4_1 (y0 y1 y2 y3 t : Int64) (hy : 0 ≤ y0.toInt ∧ y0.toInt ≤ y1.toInt ∧ y1.toInt ≤ y2.toInt ∧ y2.toInt ≤ y3.toInt) (l0 : y0.toInt ≤ t.toInt) (u : t.toInt < y1.toInt) : Up (PFX (4 : Int32) y0 y1 y2 y3) t ((0 : Int32) + (1 : Int32)) := by
  obtain ⟨h0, h1, h2, h3⟩ := hy
  have ek : (((0 : Int32) + (1 : Int32))).toInt = 1 := rfl
  rw [own_mk4]
  refine ⟨by omega, by rw [ek]; simp, ?_, ?_⟩
  · intro j x hj hq
    rw [ek] at hq
    match j, hj, hq with
    | 0, hj, hq => cases hj; omega
    | 1, hj, hq => cases hj; omega
    | 2, hj, hq => cases hj; omega
    | 3, hj, hq => cases hj; omega
    | (a + 4), hj, _ => exact absurd hj (by simp)
  · intro j x hj hq
    rw [ek] at hq
    match j, hj, hq with
    | 0, hj, hq => cases hj; omega
    | 1, hj, hq => cases hj; omega
    | 2, hj, hq => cases hj; omega
    | 3, hj, hq => cases hj; omega
    | (a + 4), hj, _ => exact absurd hj (by simp)
theorem own_up4_2 (y0 y1 y2 y3 t : Int64) (hy : 0 ≤ y0.toInt ∧ y0.toInt ≤ y1.toInt ∧ y1.toInt ≤ y2.toInt ∧ y2.toInt ≤ y3.toInt) (l0 : y0.toInt ≤ t.toInt) (l1 : y1.toInt ≤ t.toInt) (u : t.toInt < y2.toInt) : Up (PFX (4 : Int32) y0 y1 y2 y3) t (((0 : Int32) + (1 : Int32)) + (1 : Int32)) := by
  obtain ⟨h0, h1, h2, h3⟩ := hy
  have ek : ((((0 : Int32) + (1 : Int32)) + (1 : Int32))).toInt = 2 := rfl
  rw [own_mk4]
  refine ⟨by omega, by rw [ek]; simp, ?_, ?_⟩
  · intro j x hj hq
    rw [ek] at hq
    match j, hj, hq with
    | 0, hj, hq => cases hj; omega
    | 1, hj, hq => cases hj; omega
    | 2, hj, hq => cases hj; omega
    | 3, hj, hq => cases hj; omega
    | (a + 4), hj, _ => exact absurd hj (by simp)
  · intro j x hj hq
    rw [ek] at hq
    match j, hj, hq with
    | 0, hj, hq => cases hj; omega
    | 1, hj, hq => cases hj; omega
    | 2, hj, hq => cases hj; omega
    | 3, hj, hq => cases hj; omega
    | (a + 4), hj, _ => exact absurd hj (by simp)
theorem own_up4_3 (y0 y1 y2 y3 t : Int64) (hy : 0 ≤ y0.toInt ∧ y0.toInt ≤ y1.toInt ∧ y1.toInt ≤ y2.toInt ∧ y2.toInt ≤ y3.toInt) (l0 : y0.toInt ≤ t.toInt) (l1 : y1.toInt ≤ t.toInt) (l2 : y2.toInt ≤ t.toInt) (u : t.toInt < y3.toInt) : Up (PFX (4 : Int32) y0 y1 y2 y3) t ((((0 : Int32) + (1 : Int32)) + (1 : Int32)) + (1 : Int32)) := by
  obtain ⟨h0, h1, h2, h3⟩ := hy
  have ek : (((((0 : Int32) + (1 : Int32)) + (1 : Int32)) + (1 : Int32))).toInt = 3 := rfl
  rw [own_mk4]
  refine ⟨by omega, by rw [ek]; simp, ?_, ?_⟩
  · intro j x hj hq
    rw [ek] at hq
    match j, hj, hq with
    | 0, hj, hq => cases hj; omega
    | 1, hj, hq => cases hj; omega
    | 2, hj, hq => cases hj; omega
    | 3, hj, hq => cases hj; omega
    | (a + 4), hj, _ => exact absurd hj (by simp)
  · intro j x hj hq
    rw [ek] at hq
    match j, hj, hq with
    | 0, hj, hq => cases hj; omega
    | 1, hj, hq => cases hj; omega
    | 2, hj, hq => cases hj; omega
    | 3, hj, hq => cases hj; omega
    | (a + 4), hj, _ => exact absurd hj (by simp)
theorem own_up4_4 (y0 y1 y2 y3 t : Int64) (hy : 0 ≤ y0.toInt ∧ y0.toInt ≤ y1.toInt ∧ y1.toInt ≤ y2.toInt ∧ y2.toInt ≤ y3.toInt) (l0 : y0.toInt ≤ t.toInt) (l1 : y1.toInt ≤ t.toInt) (l2 : y2.toInt ≤ t.toInt) (l3 : y3.toInt ≤ t.toInt) : Up (PFX (4 : Int32) y0 y1 y2 y3) t (((((0 : Int32) + (1 : Int32)) + (1 : Int32)) + (1 : Int32)) + (1 : Int32)) := by
  obtain ⟨h0, h1, h2, h3⟩ := hy
  have ek : ((((((0 : Int32) + (1 : Int32)) + (1 : Int32)) + (1 : Int32)) + (1 : Int32))).toInt = 4 := rfl
  rw [own_mk4]
  refine ⟨by omega, by rw [ek]; simp, ?_, ?_⟩
  · intro j x hj hq
    rw [ek] at hq
    match j, hj, hq with
    | 0, hj, hq => cases hj; omega
    | 1, hj, hq => cases hj; omega
    | 2, hj, hq => cases hj; omega
    | 3, hj, hq => cases hj; omega
    | (a + 4), hj, _ => exact absurd hj (by simp)
  · intro j x hj hq
    rw [ek] at hq
    match j, hj, hq with
    | 0, hj, hq => cases hj; omega
    | 1, hj, hq => cases hj; omega
    | 2, hj, hq => cases hj; omega
    | 3, hj, hq => cases hj; omega
    | (a + 4), hj, _ => exact absurd hj (by simp)
set_option maxRecDepth 65536 in
set_option maxHeartbeats 40000000 in
theorem blk194 {p : Program} {l : Launch} {e : Env} {s : State} {m : MethodId} {args : Array Value} {below : List Frame} {meth : Method} {c : Code} {T : State} {locs : List Loc} {Z : State} {a0 : Array Value} {h0 : Heap} {n0 : Nat} (p1 : Int32) (q2 q3 q4 q5 q6 : Int64) (b11 : Addr) (x12 : Int32) (r13 : Addr) (x14 : Int32) (e15 : Int64) (x17 : Int32) (t18 : Int64) (y0 y1 y2 y3 : Int64)
    (X0 : Stand p l e room_1 s m args below meth c T locs 2 8) (hx : p.tables.exec = Jvm.exec) (hZ : Z.Warmed39 s.vm) (hw : ∀ d ∈ tables_1, d.before a0 Z = true) (hby : c.code = code) (hml : c.maxLocals = 22) (hown : s.vm.findClass "com/example/upkeep/upkeep/core/PageChangesVersionAtPinLaw" = some m.cls) (hlk : meth.locks = false) (hret : meth.sig.returnType = ret) (hnm : meth.name = "law") (N0 : Fr n0 locs) (Z0 : n0 ≤ h0.size) (e0 : T.heap = h0) (hy : 0 ≤ y0.toInt ∧ y0.toInt ≤ y1.toInt ∧ y1.toInt ≤ y2.toInt ∧ y2.toInt ≤ y3.toInt) (hn12 : x12 = (0 : Int32) ∨ x12 = (1 : Int32) ∨ x12 = (2 : Int32) ∨ x12 = (3 : Int32) ∨ x12 = (4 : Int32)) (A11 : Ax Z h0 b11 .long [(.long y0), (.long y1), (.long y2), (.long y3)]) (A13 : Ax Z h0 r13 .long ((PFX x12 y0 y1 y2 y3).map Value.long)) (E13 : Exa Z h0 r13 "[J") :
    Done p e below s (fun v h L => v = some (.int 1) ∧ Fr n0 L) room_1.cells room_1.slots (T.setTop (mkF m 194 #[.val (.int p1), .val (.long q2), .second, .val (.long q3), .second, .val (.long q4), .second, .val (.long q5), .second, .val (.long q6), .second, .val (.ref b11), .val (.int x12), .val (.ref r13), .val (.int x14), .val (.long e15), .second, .val (.int x17), .val (.long t18), .second, .unset, .unset] [])) := by
  show Done p e below s _ _ _ (T.setTop (mkF m 194 #[.val (.int p1), .val (.long q2), .second, .val (.long q3), .second, .val (.long q4), .second, .val (.long q5), .second, .val (.long q6), .second, .val (.ref b11), .val (.int x12), .val (.ref r13), .val (.int x14), .val (.long e15), .second, .val (.int x17), .val (.long t18), .second, .unset, .unset] []))
  obtain rfl | rfl | rfl | rfl | rfl := hn12
  · show Done p e below s _ _ _ (T.setTop (mkF m 194 #[.val (.int p1), .val (.long q2), .second, .val (.long q3), .second, .val (.long q4), .second, .val (.long q5), .second, .val (.long q6), .second, .val (.ref b11), .val (.int (0 : Int32)), .val (.ref r13), .val (.int x14), .val (.long e15), .second, .val (.int x17), .val (.long t18), .second, .unset, .unset] []))
    refine Done.step (fun t k => XS.iconst X0.here hx rfl (hb hby at_194) k) ?_
    show Done p e below s _ _ _ (T.setTop (mkF m 195 #[.val (.int p1), .val (.long q2), .second, .val (.long q3), .second, .val (.long q4), .second, .val (.long q5), .second, .val (.long q6), .second, .val (.ref b11), .val (.int (0 : Int32)), .val (.ref r13), .val (.int x14), .val (.long e15), .second, .val (.int x17), .val (.long t18), .second, .unset, .unset] [(.int (0 : Int32))]))
    refine Done.step (fun t k => XS.istore X0.here hx rfl (hb hby at_195) rfl (l' := #[.val (.int p1), .val (.long q2), .second, .val (.long q3), .second, .val (.long q4), .second, .val (.long q5), .second, .val (.long q6), .second, .val (.ref b11), .val (.int (0 : Int32)), .val (.ref r13), .val (.int x14), .val (.long e15), .second, .val (.int x17), .val (.long t18), .second, .val (.int (0 : Int32)), .unset]) rfl k) ?_
    show Done p e below s _ _ _ (T.setTop (mkF m 197 #[.val (.int p1), .val (.long q2), .second, .val (.long q3), .second, .val (.long q4), .second, .val (.long q5), .second, .val (.long q6), .second, .val (.ref b11), .val (.int (0 : Int32)), .val (.ref r13), .val (.int x14), .val (.long e15), .second, .val (.int x17), .val (.long t18), .second, .val (.int (0 : Int32)), .unset] []))
    refine Done.step (fun t k => XS.iload X0.here hx rfl (hb hby at_197) rfl k) ?_
    show Done p e below s _ _ _ (T.setTop (mkF m 199 #[.val (.int p1), .val (.long q2), .second, .val (.long q3), .second, .val (.long q4), .second, .val (.long q5), .second, .val (.long q6), .second, .val (.ref b11), .val (.int (0 : Int32)), .val (.ref r13), .val (.int x14), .val (.long e15), .second, .val (.int x17), .val (.long t18), .second, .val (.int (0 : Int32)), .unset] [(.int (0 : Int32))]))
    refine Done.step (fun t k => XS.ifYes X0.here hx rfl (pc0 := 199) (pc' := 218) rfl (hb hby at_199) rfl ((if0 _ _).trans (flt (by decide)).2.2.2) (by decide) (by decide) k) ?_
    show Done p e below s _ _ _ (T.setTop (mkF m 218 #[.val (.int p1), .val (.long q2), .second, .val (.long q3), .second, .val (.long q4), .second, .val (.long q5), .second, .val (.long q6), .second, .val (.ref b11), .val (.int (0 : Int32)), .val (.ref r13), .val (.int x14), .val (.long e15), .second, .val (.int x17), .val (.long t18), .second, .val (.int (0 : Int32)), .unset] []))
    refine Done.step (fun t k => XS.iload X0.here hx rfl (hb hby at_218) rfl k) ?_
    show Done p e below s _ _ _ (T.setTop (mkF m 220 #[.val (.int p1), .val (.long q2), .second, .val (.long q3), .second, .val (.long q4), .second, .val (.long q5), .second, .val (.long q6), .second, .val (.ref b11), .val (.int (0 : Int32)), .val (.ref r13), .val (.int x14), .val (.long e15), .second, .val (.int x17), .val (.long t18), .second, .val (.int (0 : Int32)), .unset] [(.int (0 : Int32))]))
    refine Done.step (fun t k => XS.iconst X0.here hx rfl (hb hby at_220) k) ?_
    show Done p e below s _ _ _ (T.setTop (mkF m 221 #[.val (.int p1), .val (.long q2), .second, .val (.long q3), .second, .val (.long q4), .second, .val (.long q5), .second, .val (.long q6), .second, .val (.ref b11), .val (.int (0 : Int32)), .val (.ref r13), .val (.int x14), .val (.long e15), .second, .val (.int x17), .val (.long t18), .second, .val (.int (0 : Int32)), .unset] [(.int (1 : Int32)), (.int (0 : Int32))]))
    refine Done.step (fun t k => XS.icmpYes X0.here hx rfl (pc0 := 221) (pc' := 240) rfl (hb hby at_221) rfl (flt (by decide)).2.2.2 (by decide) (by decide) k) ?_
    show Done p e below s _ _ _ (T.setTop (mkF m 240 #[.val (.int p1), .val (.long q2), .second, .val (.long q3), .second, .val (.long q4), .second, .val (.long q5), .second, .val (.long q6), .second, .val (.ref b11), .val (.int (0 : Int32)), .val (.ref r13), .val (.int x14), .val (.long e15), .second, .val (.int x17), .val (.long t18), .second, .val (.int (0 : Int32)), .unset] []))
    refine Done.step (fun t k => XS.iload X0.here hx rfl (hb hby at_240) rfl k) ?_
    show Done p e below s _ _ _ (T.setTop (mkF m 242 #[.val (.int p1), .val (.long q2), .second, .val (.long q3), .second, .val (.long q4), .second, .val (.long q5), .second, .val (.long q6), .second, .val (.ref b11), .val (.int (0 : Int32)), .val (.ref r13), .val (.int x14), .val (.long e15), .second, .val (.int x17), .val (.long t18), .second, .val (.int (0 : Int32)), .unset] [(.int (0 : Int32))]))
    refine Done.step (fun t k => XS.iconst X0.here hx rfl (hb hby at_242) k) ?_
    show Done p e below s _ _ _ (T.setTop (mkF m 243 #[.val (.int p1), .val (.long q2), .second, .val (.long q3), .second, .val (.long q4), .second, .val (.long q5), .second, .val (.long q6), .second, .val (.ref b11), .val (.int (0 : Int32)), .val (.ref r13), .val (.int x14), .val (.long e15), .second, .val (.int x17), .val (.long t18), .second, .val (.int (0 : Int32)), .unset] [(.int (2 : Int32)), (.int (0 : Int32))]))
    refine Done.step (fun t k => XS.icmpYes X0.here hx rfl (pc0 := 243) (pc' := 262) rfl (hb hby at_243) rfl (flt (by decide)).2.2.2 (by decide) (by decide) k) ?_
    show Done p e below s _ _ _ (T.setTop (mkF m 262 #[.val (.int p1), .val (.long q2), .second, .val (.long q3), .second, .val (.long q4), .second, .val (.long q5), .second, .val (.long q6), .second, .val (.ref b11), .val (.int (0 : Int32)), .val (.ref r13), .val (.int x14), .val (.long e15), .second, .val (.int x17), .val (.long t18), .second, .val (.int (0 : Int32)), .unset] []))
    refine Done.step (fun t k => XS.iload X0.here hx rfl (hb hby at_262) rfl k) ?_
    show Done p e below s _ _ _ (T.setTop (mkF m 264 #[.val (.int p1), .val (.long q2), .second, .val (.long q3), .second, .val (.long q4), .second, .val (.long q5), .second, .val (.long q6), .second, .val (.ref b11), .val (.int (0 : Int32)), .val (.ref r13), .val (.int x14), .val (.long e15), .second, .val (.int x17), .val (.long t18), .second, .val (.int (0 : Int32)), .unset] [(.int (0 : Int32))]))
    refine Done.step (fun t k => XS.iconst X0.here hx rfl (hb hby at_264) k) ?_
    show Done p e below s _ _ _ (T.setTop (mkF m 265 #[.val (.int p1), .val (.long q2), .second, .val (.long q3), .second, .val (.long q4), .second, .val (.long q5), .second, .val (.long q6), .second, .val (.ref b11), .val (.int (0 : Int32)), .val (.ref r13), .val (.int x14), .val (.long e15), .second, .val (.int x17), .val (.long t18), .second, .val (.int (0 : Int32)), .unset] [(.int (3 : Int32)), (.int (0 : Int32))]))
    refine Done.step (fun t k => XS.icmpYes X0.here hx rfl (pc0 := 265) (pc' := 284) rfl (hb hby at_265) rfl (flt (by decide)).2.2.2 (by decide) (by decide) k) ?_
    show Done p e below s _ _ _ (T.setTop (mkF m 284 #[.val (.int p1), .val (.long q2), .second, .val (.long q3), .second, .val (.long q4), .second, .val (.long q5), .second, .val (.long q6), .second, .val (.ref b11), .val (.int (0 : Int32)), .val (.ref r13), .val (.int x14), .val (.long e15), .second, .val (.int x17), .val (.long t18), .second, .val (.int (0 : Int32)), .unset] []))
    exact blk284 p1 q2 q3 q4 q5 q6 b11 (0 : Int32) r13 x14 e15 x17 t18 (0 : Int32) (PFX (0 : Int32) y0 y1 y2 y3) X0 hx hZ hw hby hml hown hlk hret hnm N0 Z0 e0 A13 E13 (Nat.le_of_ble_eq_true rfl) (own_pos0 _ _ _ _ hy) (own_asc0 _ _ _ _ hy) (own_up0_0 _ _ _ _ _ hy )
  · show Done p e below s _ _ _ (T.setTop (mkF m 194 #[.val (.int p1), .val (.long q2), .second, .val (.long q3), .second, .val (.long q4), .second, .val (.long q5), .second, .val (.long q6), .second, .val (.ref b11), .val (.int (1 : Int32)), .val (.ref r13), .val (.int x14), .val (.long e15), .second, .val (.int x17), .val (.long t18), .second, .unset, .unset] []))
    refine Done.step (fun t k => XS.iconst X0.here hx rfl (hb hby at_194) k) ?_
    show Done p e below s _ _ _ (T.setTop (mkF m 195 #[.val (.int p1), .val (.long q2), .second, .val (.long q3), .second, .val (.long q4), .second, .val (.long q5), .second, .val (.long q6), .second, .val (.ref b11), .val (.int (1 : Int32)), .val (.ref r13), .val (.int x14), .val (.long e15), .second, .val (.int x17), .val (.long t18), .second, .unset, .unset] [(.int (0 : Int32))]))
    refine Done.step (fun t k => XS.istore X0.here hx rfl (hb hby at_195) rfl (l' := #[.val (.int p1), .val (.long q2), .second, .val (.long q3), .second, .val (.long q4), .second, .val (.long q5), .second, .val (.long q6), .second, .val (.ref b11), .val (.int (1 : Int32)), .val (.ref r13), .val (.int x14), .val (.long e15), .second, .val (.int x17), .val (.long t18), .second, .val (.int (0 : Int32)), .unset]) rfl k) ?_
    show Done p e below s _ _ _ (T.setTop (mkF m 197 #[.val (.int p1), .val (.long q2), .second, .val (.long q3), .second, .val (.long q4), .second, .val (.long q5), .second, .val (.long q6), .second, .val (.ref b11), .val (.int (1 : Int32)), .val (.ref r13), .val (.int x14), .val (.long e15), .second, .val (.int x17), .val (.long t18), .second, .val (.int (0 : Int32)), .unset] []))
    refine Done.step (fun t k => XS.iload X0.here hx rfl (hb hby at_197) rfl k) ?_
    show Done p e below s _ _ _ (T.setTop (mkF m 199 #[.val (.int p1), .val (.long q2), .second, .val (.long q3), .second, .val (.long q4), .second, .val (.long q5), .second, .val (.long q6), .second, .val (.ref b11), .val (.int (1 : Int32)), .val (.ref r13), .val (.int x14), .val (.long e15), .second, .val (.int x17), .val (.long t18), .second, .val (.int (0 : Int32)), .unset] [(.int (1 : Int32))]))
    refine Done.step (fun t k => XS.ifNo X0.here hx rfl (hb hby at_199) rfl ((if0 _ _).trans (tlt (by decide)).2.2.2) k) ?_
    show Done p e below s _ _ _ (T.setTop (mkF m 202 #[.val (.int p1), .val (.long q2), .second, .val (.long q3), .second, .val (.long q4), .second, .val (.long q5), .second, .val (.long q6), .second, .val (.ref b11), .val (.int (1 : Int32)), .val (.ref r13), .val (.int x14), .val (.long e15), .second, .val (.int x17), .val (.long t18), .second, .val (.int (0 : Int32)), .unset] []))
    refine Done.step (fun t k => XS.aload X0.here hx rfl (hb hby at_202) rfl rfl k) ?_
    show Done p e below s _ _ _ (T.setTop (mkF m 204 #[.val (.int p1), .val (.long q2), .second, .val (.long q3), .second, .val (.long q4), .second, .val (.long q5), .second, .val (.long q6), .second, .val (.ref b11), .val (.int (1 : Int32)), .val (.ref r13), .val (.int x14), .val (.long e15), .second, .val (.int x17), .val (.long t18), .second, .val (.int (0 : Int32)), .unset] [(.ref b11)]))
    refine Done.step (fun t k => XS.iconst X0.here hx rfl (hb hby at_204) k) ?_
    show Done p e below s _ _ _ (T.setTop (mkF m 205 #[.val (.int p1), .val (.long q2), .second, .val (.long q3), .second, .val (.long q4), .second, .val (.long q5), .second, .val (.long q6), .second, .val (.ref b11), .val (.int (1 : Int32)), .val (.ref r13), .val (.int x14), .val (.long e15), .second, .val (.int x17), .val (.long t18), .second, .val (.int (0 : Int32)), .unset] [(.int (0 : Int32)), (.ref b11)]))
    refine Done.step (ldJ X0 hx hZ e0 A11 (j := (0 : Int32)) (x := (.long y0)) (by decide) rfl (g := (mkF m 205 #[.val (.int p1), .val (.long q2), .second, .val (.long q3), .second, .val (.long q4), .second, .val (.long q5), .second, .val (.long q6), .second, .val (.ref b11), .val (.int (1 : Int32)), .val (.ref r13), .val (.int x14), .val (.long e15), .second, .val (.int x17), .val (.long t18), .second, .val (.int (0 : Int32)), .unset] [(.int (0 : Int32)), (.ref b11)])) rfl rfl (hb hby at_205)) ?_
    show Done p e below s _ _ _ (T.setTop (mkF m 206 #[.val (.int p1), .val (.long q2), .second, .val (.long q3), .second, .val (.long q4), .second, .val (.long q5), .second, .val (.long q6), .second, .val (.ref b11), .val (.int (1 : Int32)), .val (.ref r13), .val (.int x14), .val (.long e15), .second, .val (.int x17), .val (.long t18), .second, .val (.int (0 : Int32)), .unset] [(.long y0)]))
    refine Done.step (fun t k => XS.lload X0.here hx rfl (hb hby at_206) rfl k) ?_
    show Done p e below s _ _ _ (T.setTop (mkF m 208 #[.val (.int p1), .val (.long q2), .second, .val (.long q3), .second, .val (.long q4), .second, .val (.long q5), .second, .val (.long q6), .second, .val (.ref b11), .val (.int (1 : Int32)), .val (.ref r13), .val (.int x14), .val (.long e15), .second, .val (.int x17), .val (.long t18), .second, .val (.int (0 : Int32)), .unset] [(.long t18), (.long y0)]))
    refine Done.step (fun t k => XS.lcmp X0.here hx rfl (hb hby at_208) rfl k) ?_
    show Done p e below s _ _ _ (T.setTop (mkF m 209 #[.val (.int p1), .val (.long q2), .second, .val (.long q3), .second, .val (.long q4), .second, .val (.long q5), .second, .val (.long q6), .second, .val (.ref b11), .val (.int (1 : Int32)), .val (.ref r13), .val (.int x14), .val (.long e15), .second, .val (.int x17), .val (.long t18), .second, .val (.int (0 : Int32)), .unset] [(.int (lcmpW y0 t18))]))
    by_cases c1 : t18 < y0
    · refine Done.step (fun t k => XS.ifYes X0.here hx rfl (pc0 := 209) (pc' := 218) rfl (hb hby at_209) rfl ((if0 _ _).trans (tlt ((lw_gt _ _).mpr c1)).2.2.1) (by decide) (by decide) k) ?_
      show Done p e below s _ _ _ (T.setTop (mkF m 218 #[.val (.int p1), .val (.long q2), .second, .val (.long q3), .second, .val (.long q4), .second, .val (.long q5), .second, .val (.long q6), .second, .val (.ref b11), .val (.int (1 : Int32)), .val (.ref r13), .val (.int x14), .val (.long e15), .second, .val (.int x17), .val (.long t18), .second, .val (.int (0 : Int32)), .unset] []))
      refine Done.step (fun t k => XS.iload X0.here hx rfl (hb hby at_218) rfl k) ?_
      show Done p e below s _ _ _ (T.setTop (mkF m 220 #[.val (.int p1), .val (.long q2), .second, .val (.long q3), .second, .val (.long q4), .second, .val (.long q5), .second, .val (.long q6), .second, .val (.ref b11), .val (.int (1 : Int32)), .val (.ref r13), .val (.int x14), .val (.long e15), .second, .val (.int x17), .val (.long t18), .second, .val (.int (0 : Int32)), .unset] [(.int (1 : Int32))]))
      refine Done.step (fun t k => XS.iconst X0.here hx rfl (hb hby at_220) k) ?_
      show Done p e below s _ _ _ (T.setTop (mkF m 221 #[.val (.int p1), .val (.long q2), .second, .val (.long q3), .second, .val (.long q4), .second, .val (.long q5), .second, .val (.long q6), .second, .val (.ref b11), .val (.int (1 : Int32)), .val (.ref r13), .val (.int x14), .val (.long e15), .second, .val (.int x17), .val (.long t18), .second, .val (.int (0 : Int32)), .unset] [(.int (1 : Int32)), (.int (1 : Int32))]))
      refine Done.step (fun t k => XS.icmpYes X0.here hx rfl (pc0 := 221) (pc' := 240) rfl (hb hby at_221) rfl (flt (by decide)).2.2.2 (by decide) (by decide) k) ?_
      show Done p e below s _ _ _ (T.setTop (mkF m 240 #[.val (.int p1), .val (.long q2), .second, .val (.long q3), .second, .val (.long q4), .second, .val (.long q5), .second, .val (.long q6), .second, .val (.ref b11), .val (.int (1 : Int32)), .val (.ref r13), .val (.int x14), .val (.long e15), .second, .val (.int x17), .val (.long t18), .second, .val (.int (0 : Int32)), .unset] []))
      refine Done.step (fun t k => XS.iload X0.here hx rfl (hb hby at_240) rfl k) ?_
      show Done p e below s _ _ _ (T.setTop (mkF m 242 #[.val (.int p1), .val (.long q2), .second, .val (.long q3), .second, .val (.long q4), .second, .val (.long q5), .second, .val (.long q6), .second, .val (.ref b11), .val (.int (1 : Int32)), .val (.ref r13), .val (.int x14), .val (.long e15), .second, .val (.int x17), .val (.long t18), .second, .val (.int (0 : Int32)), .unset] [(.int (1 : Int32))]))
      refine Done.step (fun t k => XS.iconst X0.here hx rfl (hb hby at_242) k) ?_
      show Done p e below s _ _ _ (T.setTop (mkF m 243 #[.val (.int p1), .val (.long q2), .second, .val (.long q3), .second, .val (.long q4), .second, .val (.long q5), .second, .val (.long q6), .second, .val (.ref b11), .val (.int (1 : Int32)), .val (.ref r13), .val (.int x14), .val (.long e15), .second, .val (.int x17), .val (.long t18), .second, .val (.int (0 : Int32)), .unset] [(.int (2 : Int32)), (.int (1 : Int32))]))
      refine Done.step (fun t k => XS.icmpYes X0.here hx rfl (pc0 := 243) (pc' := 262) rfl (hb hby at_243) rfl (flt (by decide)).2.2.2 (by decide) (by decide) k) ?_
      show Done p e below s _ _ _ (T.setTop (mkF m 262 #[.val (.int p1), .val (.long q2), .second, .val (.long q3), .second, .val (.long q4), .second, .val (.long q5), .second, .val (.long q6), .second, .val (.ref b11), .val (.int (1 : Int32)), .val (.ref r13), .val (.int x14), .val (.long e15), .second, .val (.int x17), .val (.long t18), .second, .val (.int (0 : Int32)), .unset] []))
      refine Done.step (fun t k => XS.iload X0.here hx rfl (hb hby at_262) rfl k) ?_
      show Done p e below s _ _ _ (T.setTop (mkF m 264 #[.val (.int p1), .val (.long q2), .second, .val (.long q3), .second, .val (.long q4), .second, .val (.long q5), .second, .val (.long q6), .second, .val (.ref b11), .val (.int (1 : Int32)), .val (.ref r13), .val (.int x14), .val (.long e15), .second, .val (.int x17), .val (.long t18), .second, .val (.int (0 : Int32)), .unset] [(.int (1 : Int32))]))
      refine Done.step (fun t k => XS.iconst X0.here hx rfl (hb hby at_264) k) ?_
      show Done p e below s _ _ _ (T.setTop (mkF m 265 #[.val (.int p1), .val (.long q2), .second, .val (.long q3), .second, .val (.long q4), .second, .val (.long q5), .second, .val (.long q6), .second, .val (.ref b11), .val (.int (1 : Int32)), .val (.ref r13), .val (.int x14), .val (.long e15), .second, .val (.int x17), .val (.long t18), .second, .val (.int (0 : Int32)), .unset] [(.int (3 : Int32)), (.int (1 : Int32))]))
      refine Done.step (fun t k => XS.icmpYes X0.here hx rfl (pc0 := 265) (pc' := 284) rfl (hb hby at_265) rfl (flt (by decide)).2.2.2 (by decide) (by decide) k) ?_
      show Done p e below s _ _ _ (T.setTop (mkF m 284 #[.val (.int p1), .val (.long q2), .second, .val (.long q3), .second, .val (.long q4), .second, .val (.long q5), .second, .val (.long q6), .second, .val (.ref b11), .val (.int (1 : Int32)), .val (.ref r13), .val (.int x14), .val (.long e15), .second, .val (.int x17), .val (.long t18), .second, .val (.int (0 : Int32)), .unset] []))
      exact blk284 p1 q2 q3 q4 q5 q6 b11 (1 : Int32) r13 x14 e15 x17 t18 (0 : Int32) (PFX (1 : Int32) y0 y1 y2 y3) X0 hx hZ hw hby hml hown hlk hret hnm N0 Z0 e0 A13 E13 (Nat.le_of_ble_eq_true rfl) (own_pos1 _ _ _ _ hy) (own_asc1 _ _ _ _ hy) (own_up1_0 _ _ _ _ _ hy (Int64.lt_iff_toInt_lt.mp c1))
    · refine Done.step (fun t k => XS.ifNo X0.here hx rfl (hb hby at_209) rfl ((if0 _ _).trans (flt (fun q_ => c1 ((lw_gt _ _).mp q_))).2.2.1) k) ?_
      show Done p e below s _ _ _ (T.setTop (mkF m 212 #[.val (.int p1), .val (.long q2), .second, .val (.long q3), .second, .val (.long q4), .second, .val (.long q5), .second, .val (.long q6), .second, .val (.ref b11), .val (.int (1 : Int32)), .val (.ref r13), .val (.int x14), .val (.long e15), .second, .val (.int x17), .val (.long t18), .second, .val (.int (0 : Int32)), .unset] []))
      refine Done.step (fun t k => XS.iload X0.here hx rfl (hb hby at_212) rfl k) ?_
      show Done p e below s _ _ _ (T.setTop (mkF m 214 #[.val (.int p1), .val (.long q2), .second, .val (.long q3), .second, .val (.long q4), .second, .val (.long q5), .second, .val (.long q6), .second, .val (.ref b11), .val (.int (1 : Int32)), .val (.ref r13), .val (.int x14), .val (.long e15), .second, .val (.int x17), .val (.long t18), .second, .val (.int (0 : Int32)), .unset] [(.int (0 : Int32))]))
      refine Done.step (fun t k => XS.iconst X0.here hx rfl (hb hby at_214) k) ?_
      show Done p e below s _ _ _ (T.setTop (mkF m 215 #[.val (.int p1), .val (.long q2), .second, .val (.long q3), .second, .val (.long q4), .second, .val (.long q5), .second, .val (.long q6), .second, .val (.ref b11), .val (.int (1 : Int32)), .val (.ref r13), .val (.int x14), .val (.long e15), .second, .val (.int x17), .val (.long t18), .second, .val (.int (0 : Int32)), .unset] [(.int (1 : Int32)), (.int (0 : Int32))]))
      refine Done.step (fun t k => XS.iadd X0.here hx rfl (hb hby at_215) rfl k) ?_
      show Done p e below s _ _ _ (T.setTop (mkF m 216 #[.val (.int p1), .val (.long q2), .second, .val (.long q3), .second, .val (.long q4), .second, .val (.long q5), .second, .val (.long q6), .second, .val (.ref b11), .val (.int (1 : Int32)), .val (.ref r13), .val (.int x14), .val (.long e15), .second, .val (.int x17), .val (.long t18), .second, .val (.int (0 : Int32)), .unset] [(.int ((0 : Int32) + (1 : Int32)))]))
      refine Done.step (fun t k => XS.istore X0.here hx rfl (hb hby at_216) rfl (l' := #[.val (.int p1), .val (.long q2), .second, .val (.long q3), .second, .val (.long q4), .second, .val (.long q5), .second, .val (.long q6), .second, .val (.ref b11), .val (.int (1 : Int32)), .val (.ref r13), .val (.int x14), .val (.long e15), .second, .val (.int x17), .val (.long t18), .second, .val (.int ((0 : Int32) + (1 : Int32))), .unset]) rfl k) ?_
      show Done p e below s _ _ _ (T.setTop (mkF m 218 #[.val (.int p1), .val (.long q2), .second, .val (.long q3), .second, .val (.long q4), .second, .val (.long q5), .second, .val (.long q6), .second, .val (.ref b11), .val (.int (1 : Int32)), .val (.ref r13), .val (.int x14), .val (.long e15), .second, .val (.int x17), .val (.long t18), .second, .val (.int ((0 : Int32) + (1 : Int32))), .unset] []))
      refine Done.step (fun t k => XS.iload X0.here hx rfl (hb hby at_218) rfl k) ?_
      show Done p e below s _ _ _ (T.setTop (mkF m 220 #[.val (.int p1), .val (.long q2), .second, .val (.long q3), .second, .val (.long q4), .second, .val (.long q5), .second, .val (.long q6), .second, .val (.ref b11), .val (.int (1 : Int32)), .val (.ref r13), .val (.int x14), .val (.long e15), .second, .val (.int x17), .val (.long t18), .second, .val (.int ((0 : Int32) + (1 : Int32))), .unset] [(.int (1 : Int32))]))
      refine Done.step (fun t k => XS.iconst X0.here hx rfl (hb hby at_220) k) ?_
      show Done p e below s _ _ _ (T.setTop (mkF m 221 #[.val (.int p1), .val (.long q2), .second, .val (.long q3), .second, .val (.long q4), .second, .val (.long q5), .second, .val (.long q6), .second, .val (.ref b11), .val (.int (1 : Int32)), .val (.ref r13), .val (.int x14), .val (.long e15), .second, .val (.int x17), .val (.long t18), .second, .val (.int ((0 : Int32) + (1 : Int32))), .unset] [(.int (1 : Int32)), (.int (1 : Int32))]))
      refine Done.step (fun t k => XS.icmpYes X0.here hx rfl (pc0 := 221) (pc' := 240) rfl (hb hby at_221) rfl (flt (by decide)).2.2.2 (by decide) (by decide) k) ?_
      show Done p e below s _ _ _ (T.setTop (mkF m 240 #[.val (.int p1), .val (.long q2), .second, .val (.long q3), .second, .val (.long q4), .second, .val (.long q5), .second, .val (.long q6), .second, .val (.ref b11), .val (.int (1 : Int32)), .val (.ref r13), .val (.int x14), .val (.long e15), .second, .val (.int x17), .val (.long t18), .second, .val (.int ((0 : Int32) + (1 : Int32))), .unset] []))
      refine Done.step (fun t k => XS.iload X0.here hx rfl (hb hby at_240) rfl k) ?_
      show Done p e below s _ _ _ (T.setTop (mkF m 242 #[.val (.int p1), .val (.long q2), .second, .val (.long q3), .second, .val (.long q4), .second, .val (.long q5), .second, .val (.long q6), .second, .val (.ref b11), .val (.int (1 : Int32)), .val (.ref r13), .val (.int x14), .val (.long e15), .second, .val (.int x17), .val (.long t18), .second, .val (.int ((0 : Int32) + (1 : Int32))), .unset] [(.int (1 : Int32))]))
      refine Done.step (fun t k => XS.iconst X0.here hx rfl (hb hby at_242) k) ?_
      show Done p e below s _ _ _ (T.setTop (mkF m 243 #[.val (.int p1), .val (.long q2), .second, .val (.long q3), .second, .val (.long q4), .second, .val (.long q5), .second, .val (.long q6), .second, .val (.ref b11), .val (.int (1 : Int32)), .val (.ref r13), .val (.int x14), .val (.long e15), .second, .val (.int x17), .val (.long t18), .second, .val (.int ((0 : Int32) + (1 : Int32))), .unset] [(.int (2 : Int32)), (.int (1 : Int32))]))
      refine Done.step (fun t k => XS.icmpYes X0.here hx rfl (pc0 := 243) (pc' := 262) rfl (hb hby at_243) rfl (flt (by decide)).2.2.2 (by decide) (by decide) k) ?_
      show Done p e below s _ _ _ (T.setTop (mkF m 262 #[.val (.int p1), .val (.long q2), .second, .val (.long q3), .second, .val (.long q4), .second, .val (.long q5), .second, .val (.long q6), .second, .val (.ref b11), .val (.int (1 : Int32)), .val (.ref r13), .val (.int x14), .val (.long e15), .second, .val (.int x17), .val (.long t18), .second, .val (.int ((0 : Int32) + (1 : Int32))), .unset] []))
      refine Done.step (fun t k => XS.iload X0.here hx rfl (hb hby at_262) rfl k) ?_
      show Done p e below s _ _ _ (T.setTop (mkF m 264 #[.val (.int p1), .val (.long q2), .second, .val (.long q3), .second, .val (.long q4), .second, .val (.long q5), .second, .val (.long q6), .second, .val (.ref b11), .val (.int (1 : Int32)), .val (.ref r13), .val (.int x14), .val (.long e15), .second, .val (.int x17), .val (.long t18), .second, .val (.int ((0 : Int32) + (1 : Int32))), .unset] [(.int (1 : Int32))]))
      refine Done.step (fun t k => XS.iconst X0.here hx rfl (hb hby at_264) k) ?_
      show Done p e below s _ _ _ (T.setTop (mkF m 265 #[.val (.int p1), .val (.long q2), .second, .val (.long q3), .second, .val (.long q4), .second, .val (.long q5), .second, .val (.long q6), .second, .val (.ref b11), .val (.int (1 : Int32)), .val (.ref r13), .val (.int x14), .val (.long e15), .second, .val (.int x17), .val (.long t18), .second, .val (.int ((0 : Int32) + (1 : Int32))), .unset] [(.int (3 : Int32)), (.int (1 : Int32))]))
      refine Done.step (fun t k => XS.icmpYes X0.here hx rfl (pc0 := 265) (pc' := 284) rfl (hb hby at_265) rfl (flt (by decide)).2.2.2 (by decide) (by decide) k) ?_
      show Done p e below s _ _ _ (T.setTop (mkF m 284 #[.val (.int p1), .val (.long q2), .second, .val (.long q3), .second, .val (.long q4), .second, .val (.long q5), .second, .val (.long q6), .second, .val (.ref b11), .val (.int (1 : Int32)), .val (.ref r13), .val (.int x14), .val (.long e15), .second, .val (.int x17), .val (.long t18), .second, .val (.int ((0 : Int32) + (1 : Int32))), .unset] []))
      exact blk284 p1 q2 q3 q4 q5 q6 b11 (1 : Int32) r13 x14 e15 x17 t18 ((0 : Int32) + (1 : Int32)) (PFX (1 : Int32) y0 y1 y2 y3) X0 hx hZ hw hby hml hown hlk hret hnm N0 Z0 e0 A13 E13 (Nat.le_of_ble_eq_true rfl) (own_pos1 _ _ _ _ hy) (own_asc1 _ _ _ _ hy) (own_up1_1 _ _ _ _ _ hy (Int.not_lt.mp (fun q_ => c1 (Int64.lt_iff_toInt_lt.mpr q_))))
  · show Done p e below s _ _ _ (T.setTop (mkF m 194 #[.val (.int p1), .val (.long q2), .second, .val (.long q3), .second, .val (.long q4), .second, .val (.long q5), .second, .val (.long q6), .second, .val (.ref b11), .val (.int (2 : Int32)), .val (.ref r13), .val (.int x14), .val (.long e15), .second, .val (.int x17), .val (.long t18), .second, .unset, .unset] []))
    refine Done.step (fun t k => XS.iconst X0.here hx rfl (hb hby at_194) k) ?_
    show Done p e below s _ _ _ (T.setTop (mkF m 195 #[.val (.int p1), .val (.long q2), .second, .val (.long q3), .second, .val (.long q4), .second, .val (.long q5), .second, .val (.long q6), .second, .val (.ref b11), .val (.int (2 : Int32)), .val (.ref r13), .val (.int x14), .val (.long e15), .second, .val (.int x17), .val (.long t18), .second, .unset, .unset] [(.int (0 : Int32))]))
    refine Done.step (fun t k => XS.istore X0.here hx rfl (hb hby at_195) rfl (l' := #[.val (.int p1), .val (.long q2), .second, .val (.long q3), .second, .val (.long q4), .second, .val (.long q5), .second, .val (.long q6), .second, .val (.ref b11), .val (.int (2 : Int32)), .val (.ref r13), .val (.int x14), .val (.long e15), .second, .val (.int x17), .val (.long t18), .second, .val (.int (0 : Int32)), .unset]) rfl k) ?_
    show Done p e below s _ _ _ (T.setTop (mkF m 197 #[.val (.int p1), .val (.long q2), .second, .val (.long q3), .second, .val (.long q4), .second, .val (.long q5), .second, .val (.long q6), .second, .val (.ref b11), .val (.int (2 : Int32)), .val (.ref r13), .val (.int x14), .val (.long e15), .second, .val (.int x17), .val (.long t18), .second, .val (.int (0 : Int32)), .unset] []))
    refine Done.step (fun t k => XS.iload X0.here hx rfl (hb hby at_197) rfl k) ?_
    show Done p e below s _ _ _ (T.setTop (mkF m 199 #[.val (.int p1), .val (.long q2), .second, .val (.long q3), .second, .val (.long q4), .second, .val (.long q5), .second, .val (.long q6), .second, .val (.ref b11), .val (.int (2 : Int32)), .val (.ref r13), .val (.int x14), .val (.long e15), .second, .val (.int x17), .val (.long t18), .second, .val (.int (0 : Int32)), .unset] [(.int (2 : Int32))]))
    refine Done.step (fun t k => XS.ifNo X0.here hx rfl (hb hby at_199) rfl ((if0 _ _).trans (tlt (by decide)).2.2.2) k) ?_
    show Done p e below s _ _ _ (T.setTop (mkF m 202 #[.val (.int p1), .val (.long q2), .second, .val (.long q3), .second, .val (.long q4), .second, .val (.long q5), .second, .val (.long q6), .second, .val (.ref b11), .val (.int (2 : Int32)), .val (.ref r13), .val (.int x14), .val (.long e15), .second, .val (.int x17), .val (.long t18), .second, .val (.int (0 : Int32)), .unset] []))
    refine Done.step (fun t k => XS.aload X0.here hx rfl (hb hby at_202) rfl rfl k) ?_
    show Done p e below s _ _ _ (T.setTop (mkF m 204 #[.val (.int p1), .val (.long q2), .second, .val (.long q3), .second, .val (.long q4), .second, .val (.long q5), .second, .val (.long q6), .second, .val (.ref b11), .val (.int (2 : Int32)), .val (.ref r13), .val (.int x14), .val (.long e15), .second, .val (.int x17), .val (.long t18), .second, .val (.int (0 : Int32)), .unset] [(.ref b11)]))
    refine Done.step (fun t k => XS.iconst X0.here hx rfl (hb hby at_204) k) ?_
    show Done p e below s _ _ _ (T.setTop (mkF m 205 #[.val (.int p1), .val (.long q2), .second, .val (.long q3), .second, .val (.long q4), .second, .val (.long q5), .second, .val (.long q6), .second, .val (.ref b11), .val (.int (2 : Int32)), .val (.ref r13), .val (.int x14), .val (.long e15), .second, .val (.int x17), .val (.long t18), .second, .val (.int (0 : Int32)), .unset] [(.int (0 : Int32)), (.ref b11)]))
    refine Done.step (ldJ X0 hx hZ e0 A11 (j := (0 : Int32)) (x := (.long y0)) (by decide) rfl (g := (mkF m 205 #[.val (.int p1), .val (.long q2), .second, .val (.long q3), .second, .val (.long q4), .second, .val (.long q5), .second, .val (.long q6), .second, .val (.ref b11), .val (.int (2 : Int32)), .val (.ref r13), .val (.int x14), .val (.long e15), .second, .val (.int x17), .val (.long t18), .second, .val (.int (0 : Int32)), .unset] [(.int (0 : Int32)), (.ref b11)])) rfl rfl (hb hby at_205)) ?_
    show Done p e below s _ _ _ (T.setTop (mkF m 206 #[.val (.int p1), .val (.long q2), .second, .val (.long q3), .second, .val (.long q4), .second, .val (.long q5), .second, .val (.long q6), .second, .val (.ref b11), .val (.int (2 : Int32)), .val (.ref r13), .val (.int x14), .val (.long e15), .second, .val (.int x17), .val (.long t18), .second, .val (.int (0 : Int32)), .unset] [(.long y0)]))
    refine Done.step (fun t k => XS.lload X0.here hx rfl (hb hby at_206) rfl k) ?_
    show Done p e below s _ _ _ (T.setTop (mkF m 208 #[.val (.int p1), .val (.long q2), .second, .val (.long q3), .second, .val (.long q4), .second, .val (.long q5), .second, .val (.long q6), .second, .val (.ref b11), .val (.int (2 : Int32)), .val (.ref r13), .val (.int x14), .val (.long e15), .second, .val (.int x17), .val (.long t18), .second, .val (.int (0 : Int32)), .unset] [(.long t18), (.long y0)]))
    refine Done.step (fun t k => XS.lcmp X0.here hx rfl (hb hby at_208) rfl k) ?_
    show Done p e below s _ _ _ (T.setTop (mkF m 209 #[.val (.int p1), .val (.long q2), .second, .val (.long q3), .second, .val (.long q4), .second, .val (.long q5), .second, .val (.long q6), .second, .val (.ref b11), .val (.int (2 : Int32)), .val (.ref r13), .val (.int x14), .val (.long e15), .second, .val (.int x17), .val (.long t18), .second, .val (.int (0 : Int32)), .unset] [(.int (lcmpW y0 t18))]))
    by_cases c2 : t18 < y0
    · refine Done.step (fun t k => XS.ifYes X0.here hx rfl (pc0 := 209) (pc' := 218) rfl (hb hby at_209) rfl ((if0 _ _).trans (tlt ((lw_gt _ _).mpr c2)).2.2.1) (by decide) (by decide) k) ?_
      show Done p e below s _ _ _ (T.setTop (mkF m 218 #[.val (.int p1), .val (.long q2), .second, .val (.long q3), .second, .val (.long q4), .second, .val (.long q5), .second, .val (.long q6), .second, .val (.ref b11), .val (.int (2 : Int32)), .val (.ref r13), .val (.int x14), .val (.long e15), .second, .val (.int x17), .val (.long t18), .second, .val (.int (0 : Int32)), .unset] []))
      refine Done.step (fun t k => XS.iload X0.here hx rfl (hb hby at_218) rfl k) ?_
      show Done p e below s _ _ _ (T.setTop (mkF m 220 #[.val (.int p1), .val (.long q2), .second, .val (.long q3), .second, .val (.long q4), .second, .val (.long q5), .second, .val (.long q6), .second, .val (.ref b11), .val (.int (2 : Int32)), .val (.ref r13), .val (.int x14), .val (.long e15), .second, .val (.int x17), .val (.long t18), .second, .val (.int (0 : Int32)), .unset] [(.int (2 : Int32))]))
      refine Done.step (fun t k => XS.iconst X0.here hx rfl (hb hby at_220) k) ?_
      show Done p e below s _ _ _ (T.setTop (mkF m 221 #[.val (.int p1), .val (.long q2), .second, .val (.long q3), .second, .val (.long q4), .second, .val (.long q5), .second, .val (.long q6), .second, .val (.ref b11), .val (.int (2 : Int32)), .val (.ref r13), .val (.int x14), .val (.long e15), .second, .val (.int x17), .val (.long t18), .second, .val (.int (0 : Int32)), .unset] [(.int (1 : Int32)), (.int (2 : Int32))]))
      refine Done.step (fun t k => XS.icmpNo X0.here hx rfl (hb hby at_221) rfl (tlt (by decide)).2.2.2 k) ?_
      show Done p e below s _ _ _ (T.setTop (mkF m 224 #[.val (.int p1), .val (.long q2), .second, .val (.long q3), .second, .val (.long q4), .second, .val (.long q5), .second, .val (.long q6), .second, .val (.ref b11), .val (.int (2 : Int32)), .val (.ref r13), .val (.int x14), .val (.long e15), .second, .val (.int x17), .val (.long t18), .second, .val (.int (0 : Int32)), .unset] []))
      refine Done.step (fun t k => XS.aload X0.here hx rfl (hb hby at_224) rfl rfl k) ?_
      show Done p e below s _ _ _ (T.setTop (mkF m 226 #[.val (.int p1), .val (.long q2), .second, .val (.long q3), .second, .val (.long q4), .second, .val (.long q5), .second, .val (.long q6), .second, .val (.ref b11), .val (.int (2 : Int32)), .val (.ref r13), .val (.int x14), .val (.long e15), .second, .val (.int x17), .val (.long t18), .second, .val (.int (0 : Int32)), .unset] [(.ref b11)]))
      refine Done.step (fun t k => XS.iconst X0.here hx rfl (hb hby at_226) k) ?_
      show Done p e below s _ _ _ (T.setTop (mkF m 227 #[.val (.int p1), .val (.long q2), .second, .val (.long q3), .second, .val (.long q4), .second, .val (.long q5), .second, .val (.long q6), .second, .val (.ref b11), .val (.int (2 : Int32)), .val (.ref r13), .val (.int x14), .val (.long e15), .second, .val (.int x17), .val (.long t18), .second, .val (.int (0 : Int32)), .unset] [(.int (1 : Int32)), (.ref b11)]))
      refine Done.step (ldJ X0 hx hZ e0 A11 (j := (1 : Int32)) (x := (.long y1)) (by decide) rfl (g := (mkF m 227 #[.val (.int p1), .val (.long q2), .second, .val (.long q3), .second, .val (.long q4), .second, .val (.long q5), .second, .val (.long q6), .second, .val (.ref b11), .val (.int (2 : Int32)), .val (.ref r13), .val (.int x14), .val (.long e15), .second, .val (.int x17), .val (.long t18), .second, .val (.int (0 : Int32)), .unset] [(.int (1 : Int32)), (.ref b11)])) rfl rfl (hb hby at_227)) ?_
      show Done p e below s _ _ _ (T.setTop (mkF m 228 #[.val (.int p1), .val (.long q2), .second, .val (.long q3), .second, .val (.long q4), .second, .val (.long q5), .second, .val (.long q6), .second, .val (.ref b11), .val (.int (2 : Int32)), .val (.ref r13), .val (.int x14), .val (.long e15), .second, .val (.int x17), .val (.long t18), .second, .val (.int (0 : Int32)), .unset] [(.long y1)]))
      refine Done.step (fun t k => XS.lload X0.here hx rfl (hb hby at_228) rfl k) ?_
      show Done p e below s _ _ _ (T.setTop (mkF m 230 #[.val (.int p1), .val (.long q2), .second, .val (.long q3), .second, .val (.long q4), .second, .val (.long q5), .second, .val (.long q6), .second, .val (.ref b11), .val (.int (2 : Int32)), .val (.ref r13), .val (.int x14), .val (.long e15), .second, .val (.int x17), .val (.long t18), .second, .val (.int (0 : Int32)), .unset] [(.long t18), (.long y1)]))
      refine Done.step (fun t k => XS.lcmp X0.here hx rfl (hb hby at_230) rfl k) ?_
      show Done p e below s _ _ _ (T.setTop (mkF m 231 #[.val (.int p1), .val (.long q2), .second, .val (.long q3), .second, .val (.long q4), .second, .val (.long q5), .second, .val (.long q6), .second, .val (.ref b11), .val (.int (2 : Int32)), .val (.ref r13), .val (.int x14), .val (.long e15), .second, .val (.int x17), .val (.long t18), .second, .val (.int (0 : Int32)), .unset] [(.int (lcmpW y1 t18))]))
      refine Done.step (fun t k => XS.ifYes X0.here hx rfl (pc0 := 231) (pc' := 240) rfl (hb hby at_231) rfl ((if0 _ _).trans (tlt ((lw_gt _ _).mpr (show t18 < y1 from (by rw [Int64.lt_iff_toInt_lt]; have := Int64.lt_iff_toInt_lt.mp c2; omega)))).2.2.1) (by decide) (by decide) k) ?_
      show Done p e below s _ _ _ (T.setTop (mkF m 240 #[.val (.int p1), .val (.long q2), .second, .val (.long q3), .second, .val (.long q4), .second, .val (.long q5), .second, .val (.long q6), .second, .val (.ref b11), .val (.int (2 : Int32)), .val (.ref r13), .val (.int x14), .val (.long e15), .second, .val (.int x17), .val (.long t18), .second, .val (.int (0 : Int32)), .unset] []))
      refine Done.step (fun t k => XS.iload X0.here hx rfl (hb hby at_240) rfl k) ?_
      show Done p e below s _ _ _ (T.setTop (mkF m 242 #[.val (.int p1), .val (.long q2), .second, .val (.long q3), .second, .val (.long q4), .second, .val (.long q5), .second, .val (.long q6), .second, .val (.ref b11), .val (.int (2 : Int32)), .val (.ref r13), .val (.int x14), .val (.long e15), .second, .val (.int x17), .val (.long t18), .second, .val (.int (0 : Int32)), .unset] [(.int (2 : Int32))]))
      refine Done.step (fun t k => XS.iconst X0.here hx rfl (hb hby at_242) k) ?_
      show Done p e below s _ _ _ (T.setTop (mkF m 243 #[.val (.int p1), .val (.long q2), .second, .val (.long q3), .second, .val (.long q4), .second, .val (.long q5), .second, .val (.long q6), .second, .val (.ref b11), .val (.int (2 : Int32)), .val (.ref r13), .val (.int x14), .val (.long e15), .second, .val (.int x17), .val (.long t18), .second, .val (.int (0 : Int32)), .unset] [(.int (2 : Int32)), (.int (2 : Int32))]))
      refine Done.step (fun t k => XS.icmpYes X0.here hx rfl (pc0 := 243) (pc' := 262) rfl (hb hby at_243) rfl (flt (by decide)).2.2.2 (by decide) (by decide) k) ?_
      show Done p e below s _ _ _ (T.setTop (mkF m 262 #[.val (.int p1), .val (.long q2), .second, .val (.long q3), .second, .val (.long q4), .second, .val (.long q5), .second, .val (.long q6), .second, .val (.ref b11), .val (.int (2 : Int32)), .val (.ref r13), .val (.int x14), .val (.long e15), .second, .val (.int x17), .val (.long t18), .second, .val (.int (0 : Int32)), .unset] []))
      refine Done.step (fun t k => XS.iload X0.here hx rfl (hb hby at_262) rfl k) ?_
      show Done p e below s _ _ _ (T.setTop (mkF m 264 #[.val (.int p1), .val (.long q2), .second, .val (.long q3), .second, .val (.long q4), .second, .val (.long q5), .second, .val (.long q6), .second, .val (.ref b11), .val (.int (2 : Int32)), .val (.ref r13), .val (.int x14), .val (.long e15), .second, .val (.int x17), .val (.long t18), .second, .val (.int (0 : Int32)), .unset] [(.int (2 : Int32))]))
      refine Done.step (fun t k => XS.iconst X0.here hx rfl (hb hby at_264) k) ?_
      show Done p e below s _ _ _ (T.setTop (mkF m 265 #[.val (.int p1), .val (.long q2), .second, .val (.long q3), .second, .val (.long q4), .second, .val (.long q5), .second, .val (.long q6), .second, .val (.ref b11), .val (.int (2 : Int32)), .val (.ref r13), .val (.int x14), .val (.long e15), .second, .val (.int x17), .val (.long t18), .second, .val (.int (0 : Int32)), .unset] [(.int (3 : Int32)), (.int (2 : Int32))]))
      refine Done.step (fun t k => XS.icmpYes X0.here hx rfl (pc0 := 265) (pc' := 284) rfl (hb hby at_265) rfl (flt (by decide)).2.2.2 (by decide) (by decide) k) ?_
      show Done p e below s _ _ _ (T.setTop (mkF m 284 #[.val (.int p1), .val (.long q2), .second, .val (.long q3), .second, .val (.long q4), .second, .val (.long q5), .second, .val (.long q6), .second, .val (.ref b11), .val (.int (2 : Int32)), .val (.ref r13), .val (.int x14), .val (.long e15), .second, .val (.int x17), .val (.long t18), .second, .val (.int (0 : Int32)), .unset] []))
      exact blk284 p1 q2 q3 q4 q5 q6 b11 (2 : Int32) r13 x14 e15 x17 t18 (0 : Int32) (PFX (2 : Int32) y0 y1 y2 y3) X0 hx hZ hw hby hml hown hlk hret hnm N0 Z0 e0 A13 E13 (Nat.le_of_ble_eq_true rfl) (own_pos2 _ _ _ _ hy) (own_asc2 _ _ _ _ hy) (own_up2_0 _ _ _ _ _ hy (Int64.lt_iff_toInt_lt.mp c2))
    · refine Done.step (fun t k => XS.ifNo X0.here hx rfl (hb hby at_209) rfl ((if0 _ _).trans (flt (fun q_ => c2 ((lw_gt _ _).mp q_))).2.2.1) k) ?_
      show Done p e below s _ _ _ (T.setTop (mkF m 212 #[.val (.int p1), .val (.long q2), .second, .val (.long q3), .second, .val (.long q4), .second, .val (.long q5), .second, .val (.long q6), .second, .val (.ref b11), .val (.int (2 : Int32)), .val (.ref r13), .val (.int x14), .val (.long e15), .second, .val (.int x17), .val (.long t18), .second, .val (.int (0 : Int32)), .unset] []))
      refine Done.step (fun t k => XS.iload X0.here hx rfl (hb hby at_212) rfl k) ?_
      show Done p e below s _ _ _ (T.setTop (mkF m 214 #[.val (.int p1), .val (.long q2), .second, .val (.long q3), .second, .val (.long q4), .second, .val (.long q5), .second, .val (.long q6), .second, .val (.ref b11), .val (.int (2 : Int32)), .val (.ref r13), .val (.int x14), .val (.long e15), .second, .val (.int x17), .val (.long t18), .second, .val (.int (0 : Int32)), .unset] [(.int (0 : Int32))]))
      refine Done.step (fun t k => XS.iconst X0.here hx rfl (hb hby at_214) k) ?_
      show Done p e below s _ _ _ (T.setTop (mkF m 215 #[.val (.int p1), .val (.long q2), .second, .val (.long q3), .second, .val (.long q4), .second, .val (.long q5), .second, .val (.long q6), .second, .val (.ref b11), .val (.int (2 : Int32)), .val (.ref r13), .val (.int x14), .val (.long e15), .second, .val (.int x17), .val (.long t18), .second, .val (.int (0 : Int32)), .unset] [(.int (1 : Int32)), (.int (0 : Int32))]))
      refine Done.step (fun t k => XS.iadd X0.here hx rfl (hb hby at_215) rfl k) ?_
      show Done p e below s _ _ _ (T.setTop (mkF m 216 #[.val (.int p1), .val (.long q2), .second, .val (.long q3), .second, .val (.long q4), .second, .val (.long q5), .second, .val (.long q6), .second, .val (.ref b11), .val (.int (2 : Int32)), .val (.ref r13), .val (.int x14), .val (.long e15), .second, .val (.int x17), .val (.long t18), .second, .val (.int (0 : Int32)), .unset] [(.int ((0 : Int32) + (1 : Int32)))]))
      refine Done.step (fun t k => XS.istore X0.here hx rfl (hb hby at_216) rfl (l' := #[.val (.int p1), .val (.long q2), .second, .val (.long q3), .second, .val (.long q4), .second, .val (.long q5), .second, .val (.long q6), .second, .val (.ref b11), .val (.int (2 : Int32)), .val (.ref r13), .val (.int x14), .val (.long e15), .second, .val (.int x17), .val (.long t18), .second, .val (.int ((0 : Int32) + (1 : Int32))), .unset]) rfl k) ?_
      show Done p e below s _ _ _ (T.setTop (mkF m 218 #[.val (.int p1), .val (.long q2), .second, .val (.long q3), .second, .val (.long q4), .second, .val (.long q5), .second, .val (.long q6), .second, .val (.ref b11), .val (.int (2 : Int32)), .val (.ref r13), .val (.int x14), .val (.long e15), .second, .val (.int x17), .val (.long t18), .second, .val (.int ((0 : Int32) + (1 : Int32))), .unset] []))
      refine Done.step (fun t k => XS.iload X0.here hx rfl (hb hby at_218) rfl k) ?_
      show Done p e below s _ _ _ (T.setTop (mkF m 220 #[.val (.int p1), .val (.long q2), .second, .val (.long q3), .second, .val (.long q4), .second, .val (.long q5), .second, .val (.long q6), .second, .val (.ref b11), .val (.int (2 : Int32)), .val (.ref r13), .val (.int x14), .val (.long e15), .second, .val (.int x17), .val (.long t18), .second, .val (.int ((0 : Int32) + (1 : Int32))), .unset] [(.int (2 : Int32))]))
      refine Done.step (fun t k => XS.iconst X0.here hx rfl (hb hby at_220) k) ?_
      show Done p e below s _ _ _ (T.setTop (mkF m 221 #[.val (.int p1), .val (.long q2), .second, .val (.long q3), .second, .val (.long q4), .second, .val (.long q5), .second, .val (.long q6), .second, .val (.ref b11), .val (.int (2 : Int32)), .val (.ref r13), .val (.int x14), .val (.long e15), .second, .val (.int x17), .val (.long t18), .second, .val (.int ((0 : Int32) + (1 : Int32))), .unset] [(.int (1 : Int32)), (.int (2 : Int32))]))
      refine Done.step (fun t k => XS.icmpNo X0.here hx rfl (hb hby at_221) rfl (tlt (by decide)).2.2.2 k) ?_
      show Done p e below s _ _ _ (T.setTop (mkF m 224 #[.val (.int p1), .val (.long q2), .second, .val (.long q3), .second, .val (.long q4), .second, .val (.long q5), .second, .val (.long q6), .second, .val (.ref b11), .val (.int (2 : Int32)), .val (.ref r13), .val (.int x14), .val (.long e15), .second, .val (.int x17), .val (.long t18), .second, .val (.int ((0 : Int32) + (1 : Int32))), .unset] []))
      refine Done.step (fun t k => XS.aload X0.here hx rfl (hb hby at_224) rfl rfl k) ?_
      show Done p e below s _ _ _ (T.setTop (mkF m 226 #[.val (.int p1), .val (.long q2), .second, .val (.long q3), .second, .val (.long q4), .second, .val (.long q5), .second, .val (.long q6), .second, .val (.ref b11), .val (.int (2 : Int32)), .val (.ref r13), .val (.int x14), .val (.long e15), .second, .val (.int x17), .val (.long t18), .second, .val (.int ((0 : Int32) + (1 : Int32))), .unset] [(.ref b11)]))
      refine Done.step (fun t k => XS.iconst X0.here hx rfl (hb hby at_226) k) ?_
      show Done p e below s _ _ _ (T.setTop (mkF m 227 #[.val (.int p1), .val (.long q2), .second, .val (.long q3), .second, .val (.long q4), .second, .val (.long q5), .second, .val (.long q6), .second, .val (.ref b11), .val (.int (2 : Int32)), .val (.ref r13), .val (.int x14), .val (.long e15), .second, .val (.int x17), .val (.long t18), .second, .val (.int ((0 : Int32) + (1 : Int32))), .unset] [(.int (1 : Int32)), (.ref b11)]))
      refine Done.step (ldJ X0 hx hZ e0 A11 (j := (1 : Int32)) (x := (.long y1)) (by decide) rfl (g := (mkF m 227 #[.val (.int p1), .val (.long q2), .second, .val (.long q3), .second, .val (.long q4), .second, .val (.long q5), .second, .val (.long q6), .second, .val (.ref b11), .val (.int (2 : Int32)), .val (.ref r13), .val (.int x14), .val (.long e15), .second, .val (.int x17), .val (.long t18), .second, .val (.int ((0 : Int32) + (1 : Int32))), .unset] [(.int (1 : Int32)), (.ref b11)])) rfl rfl (hb hby at_227)) ?_
      show Done p e below s _ _ _ (T.setTop (mkF m 228 #[.val (.int p1), .val (.long q2), .second, .val (.long q3), .second, .val (.long q4), .second, .val (.long q5), .second, .val (.long q6), .second, .val (.ref b11), .val (.int (2 : Int32)), .val (.ref r13), .val (.int x14), .val (.long e15), .second, .val (.int x17), .val (.long t18), .second, .val (.int ((0 : Int32) + (1 : Int32))), .unset] [(.long y1)]))
      refine Done.step (fun t k => XS.lload X0.here hx rfl (hb hby at_228) rfl k) ?_
      show Done p e below s _ _ _ (T.setTop (mkF m 230 #[.val (.int p1), .val (.long q2), .second, .val (.long q3), .second, .val (.long q4), .second, .val (.long q5), .second, .val (.long q6), .second, .val (.ref b11), .val (.int (2 : Int32)), .val (.ref r13), .val (.int x14), .val (.long e15), .second, .val (.int x17), .val (.long t18), .second, .val (.int ((0 : Int32) + (1 : Int32))), .unset] [(.long t18), (.long y1)]))
      refine Done.step (fun t k => XS.lcmp X0.here hx rfl (hb hby at_230) rfl k) ?_
      show Done p e below s _ _ _ (T.setTop (mkF m 231 #[.val (.int p1), .val (.long q2), .second, .val (.long q3), .second, .val (.long q4), .second, .val (.long q5), .second, .val (.long q6), .second, .val (.ref b11), .val (.int (2 : Int32)), .val (.ref r13), .val (.int x14), .val (.long e15), .second, .val (.int x17), .val (.long t18), .second, .val (.int ((0 : Int32) + (1 : Int32))), .unset] [(.int (lcmpW y1 t18))]))
      by_cases c3 : t18 < y1
      · refine Done.step (fun t k => XS.ifYes X0.here hx rfl (pc0 := 231) (pc' := 240) rfl (hb hby at_231) rfl ((if0 _ _).trans (tlt ((lw_gt _ _).mpr c3)).2.2.1) (by decide) (by decide) k) ?_
        show Done p e below s _ _ _ (T.setTop (mkF m 240 #[.val (.int p1), .val (.long q2), .second, .val (.long q3), .second, .val (.long q4), .second, .val (.long q5), .second, .val (.long q6), .second, .val (.ref b11), .val (.int (2 : Int32)), .val (.ref r13), .val (.int x14), .val (.long e15), .second, .val (.int x17), .val (.long t18), .second, .val (.int ((0 : Int32) + (1 : Int32))), .unset] []))
        refine Done.step (fun t k => XS.iload X0.here hx rfl (hb hby at_240) rfl k) ?_
        show Done p e below s _ _ _ (T.setTop (mkF m 242 #[.val (.int p1), .val (.long q2), .second, .val (.long q3), .second, .val (.long q4), .second, .val (.long q5), .second, .val (.long q6), .second, .val (.ref b11), .val (.int (2 : Int32)), .val (.ref r13), .val (.int x14), .val (.long e15), .second, .val (.int x17), .val (.long t18), .second, .val (.int ((0 : Int32) + (1 : Int32))), .unset] [(.int (2 : Int32))]))
        refine Done.step (fun t k => XS.iconst X0.here hx rfl (hb hby at_242) k) ?_
        show Done p e below s _ _ _ (T.setTop (mkF m 243 #[.val (.int p1), .val (.long q2), .second, .val (.long q3), .second, .val (.long q4), .second, .val (.long q5), .second, .val (.long q6), .second, .val (.ref b11), .val (.int (2 : Int32)), .val (.ref r13), .val (.int x14), .val (.long e15), .second, .val (.int x17), .val (.long t18), .second, .val (.int ((0 : Int32) + (1 : Int32))), .unset] [(.int (2 : Int32)), (.int (2 : Int32))]))
        refine Done.step (fun t k => XS.icmpYes X0.here hx rfl (pc0 := 243) (pc' := 262) rfl (hb hby at_243) rfl (flt (by decide)).2.2.2 (by decide) (by decide) k) ?_
        show Done p e below s _ _ _ (T.setTop (mkF m 262 #[.val (.int p1), .val (.long q2), .second, .val (.long q3), .second, .val (.long q4), .second, .val (.long q5), .second, .val (.long q6), .second, .val (.ref b11), .val (.int (2 : Int32)), .val (.ref r13), .val (.int x14), .val (.long e15), .second, .val (.int x17), .val (.long t18), .second, .val (.int ((0 : Int32) + (1 : Int32))), .unset] []))
        refine Done.step (fun t k => XS.iload X0.here hx rfl (hb hby at_262) rfl k) ?_
        show Done p e below s _ _ _ (T.setTop (mkF m 264 #[.val (.int p1), .val (.long q2), .second, .val (.long q3), .second, .val (.long q4), .second, .val (.long q5), .second, .val (.long q6), .second, .val (.ref b11), .val (.int (2 : Int32)), .val (.ref r13), .val (.int x14), .val (.long e15), .second, .val (.int x17), .val (.long t18), .second, .val (.int ((0 : Int32) + (1 : Int32))), .unset] [(.int (2 : Int32))]))
        refine Done.step (fun t k => XS.iconst X0.here hx rfl (hb hby at_264) k) ?_
        show Done p e below s _ _ _ (T.setTop (mkF m 265 #[.val (.int p1), .val (.long q2), .second, .val (.long q3), .second, .val (.long q4), .second, .val (.long q5), .second, .val (.long q6), .second, .val (.ref b11), .val (.int (2 : Int32)), .val (.ref r13), .val (.int x14), .val (.long e15), .second, .val (.int x17), .val (.long t18), .second, .val (.int ((0 : Int32) + (1 : Int32))), .unset] [(.int (3 : Int32)), (.int (2 : Int32))]))
        refine Done.step (fun t k => XS.icmpYes X0.here hx rfl (pc0 := 265) (pc' := 284) rfl (hb hby at_265) rfl (flt (by decide)).2.2.2 (by decide) (by decide) k) ?_
        show Done p e below s _ _ _ (T.setTop (mkF m 284 #[.val (.int p1), .val (.long q2), .second, .val (.long q3), .second, .val (.long q4), .second, .val (.long q5), .second, .val (.long q6), .second, .val (.ref b11), .val (.int (2 : Int32)), .val (.ref r13), .val (.int x14), .val (.long e15), .second, .val (.int x17), .val (.long t18), .second, .val (.int ((0 : Int32) + (1 : Int32))), .unset] []))
        exact blk284 p1 q2 q3 q4 q5 q6 b11 (2 : Int32) r13 x14 e15 x17 t18 ((0 : Int32) + (1 : Int32)) (PFX (2 : Int32) y0 y1 y2 y3) X0 hx hZ hw hby hml hown hlk hret hnm N0 Z0 e0 A13 E13 (Nat.le_of_ble_eq_true rfl) (own_pos2 _ _ _ _ hy) (own_asc2 _ _ _ _ hy) (own_up2_1 _ _ _ _ _ hy (Int.not_lt.mp (fun q_ => c2 (Int64.lt_iff_toInt_lt.mpr q_))) (Int64.lt_iff_toInt_lt.mp c3))
      · refine Done.step (fun t k => XS.ifNo X0.here hx rfl (hb hby at_231) rfl ((if0 _ _).trans (flt (fun q_ => c3 ((lw_gt _ _).mp q_))).2.2.1) k) ?_
        show Done p e below s _ _ _ (T.setTop (mkF m 234 #[.val (.int p1), .val (.long q2), .second, .val (.long q3), .second, .val (.long q4), .second, .val (.long q5), .second, .val (.long q6), .second, .val (.ref b11), .val (.int (2 : Int32)), .val (.ref r13), .val (.int x14), .val (.long e15), .second, .val (.int x17), .val (.long t18), .second, .val (.int ((0 : Int32) + (1 : Int32))), .unset] []))
        refine Done.step (fun t k => XS.iload X0.here hx rfl (hb hby at_234) rfl k) ?_
        show Done p e below s _ _ _ (T.setTop (mkF m 236 #[.val (.int p1), .val (.long q2), .second, .val (.long q3), .second, .val (.long q4), .second, .val (.long q5), .second, .val (.long q6), .second, .val (.ref b11), .val (.int (2 : Int32)), .val (.ref r13), .val (.int x14), .val (.long e15), .second, .val (.int x17), .val (.long t18), .second, .val (.int ((0 : Int32) + (1 : Int32))), .unset] [(.int ((0 : Int32) + (1 : Int32)))]))
        refine Done.step (fun t k => XS.iconst X0.here hx rfl (hb hby at_236) k) ?_
        show Done p e below s _ _ _ (T.setTop (mkF m 237 #[.val (.int p1), .val (.long q2), .second, .val (.long q3), .second, .val (.long q4), .second, .val (.long q5), .second, .val (.long q6), .second, .val (.ref b11), .val (.int (2 : Int32)), .val (.ref r13), .val (.int x14), .val (.long e15), .second, .val (.int x17), .val (.long t18), .second, .val (.int ((0 : Int32) + (1 : Int32))), .unset] [(.int (1 : Int32)), (.int ((0 : Int32) + (1 : Int32)))]))
        refine Done.step (fun t k => XS.iadd X0.here hx rfl (hb hby at_237) rfl k) ?_
        show Done p e below s _ _ _ (T.setTop (mkF m 238 #[.val (.int p1), .val (.long q2), .second, .val (.long q3), .second, .val (.long q4), .second, .val (.long q5), .second, .val (.long q6), .second, .val (.ref b11), .val (.int (2 : Int32)), .val (.ref r13), .val (.int x14), .val (.long e15), .second, .val (.int x17), .val (.long t18), .second, .val (.int ((0 : Int32) + (1 : Int32))), .unset] [(.int (((0 : Int32) + (1 : Int32)) + (1 : Int32)))]))
        refine Done.step (fun t k => XS.istore X0.here hx rfl (hb hby at_238) rfl (l' := #[.val (.int p1), .val (.long q2), .second, .val (.long q3), .second, .val (.long q4), .second, .val (.long q5), .second, .val (.long q6), .second, .val (.ref b11), .val (.int (2 : Int32)), .val (.ref r13), .val (.int x14), .val (.long e15), .second, .val (.int x17), .val (.long t18), .second, .val (.int (((0 : Int32) + (1 : Int32)) + (1 : Int32))), .unset]) rfl k) ?_
        show Done p e below s _ _ _ (T.setTop (mkF m 240 #[.val (.int p1), .val (.long q2), .second, .val (.long q3), .second, .val (.long q4), .second, .val (.long q5), .second, .val (.long q6), .second, .val (.ref b11), .val (.int (2 : Int32)), .val (.ref r13), .val (.int x14), .val (.long e15), .second, .val (.int x17), .val (.long t18), .second, .val (.int (((0 : Int32) + (1 : Int32)) + (1 : Int32))), .unset] []))
        refine Done.step (fun t k => XS.iload X0.here hx rfl (hb hby at_240) rfl k) ?_
        show Done p e below s _ _ _ (T.setTop (mkF m 242 #[.val (.int p1), .val (.long q2), .second, .val (.long q3), .second, .val (.long q4), .second, .val (.long q5), .second, .val (.long q6), .second, .val (.ref b11), .val (.int (2 : Int32)), .val (.ref r13), .val (.int x14), .val (.long e15), .second, .val (.int x17), .val (.long t18), .second, .val (.int (((0 : Int32) + (1 : Int32)) + (1 : Int32))), .unset] [(.int (2 : Int32))]))
        refine Done.step (fun t k => XS.iconst X0.here hx rfl (hb hby at_242) k) ?_
        show Done p e below s _ _ _ (T.setTop (mkF m 243 #[.val (.int p1), .val (.long q2), .second, .val (.long q3), .second, .val (.long q4), .second, .val (.long q5), .second, .val (.long q6), .second, .val (.ref b11), .val (.int (2 : Int32)), .val (.ref r13), .val (.int x14), .val (.long e15), .second, .val (.int x17), .val (.long t18), .second, .val (.int (((0 : Int32) + (1 : Int32)) + (1 : Int32))), .unset] [(.int (2 : Int32)), (.int (2 : Int32))]))
        refine Done.step (fun t k => XS.icmpYes X0.here hx rfl (pc0 := 243) (pc' := 262) rfl (hb hby at_243) rfl (flt (by decide)).2.2.2 (by decide) (by decide) k) ?_
        show Done p e below s _ _ _ (T.setTop (mkF m 262 #[.val (.int p1), .val (.long q2), .second, .val (.long q3), .second, .val (.long q4), .second, .val (.long q5), .second, .val (.long q6), .second, .val (.ref b11), .val (.int (2 : Int32)), .val (.ref r13), .val (.int x14), .val (.long e15), .second, .val (.int x17), .val (.long t18), .second, .val (.int (((0 : Int32) + (1 : Int32)) + (1 : Int32))), .unset] []))
        refine Done.step (fun t k => XS.iload X0.here hx rfl (hb hby at_262) rfl k) ?_
        show Done p e below s _ _ _ (T.setTop (mkF m 264 #[.val (.int p1), .val (.long q2), .second, .val (.long q3), .second, .val (.long q4), .second, .val (.long q5), .second, .val (.long q6), .second, .val (.ref b11), .val (.int (2 : Int32)), .val (.ref r13), .val (.int x14), .val (.long e15), .second, .val (.int x17), .val (.long t18), .second, .val (.int (((0 : Int32) + (1 : Int32)) + (1 : Int32))), .unset] [(.int (2 : Int32))]))
        refine Done.step (fun t k => XS.iconst X0.here hx rfl (hb hby at_264) k) ?_
        show Done p e below s _ _ _ (T.setTop (mkF m 265 #[.val (.int p1), .val (.long q2), .second, .val (.long q3), .second, .val (.long q4), .second, .val (.long q5), .second, .val (.long q6), .second, .val (.ref b11), .val (.int (2 : Int32)), .val (.ref r13), .val (.int x14), .val (.long e15), .second, .val (.int x17), .val (.long t18), .second, .val (.int (((0 : Int32) + (1 : Int32)) + (1 : Int32))), .unset] [(.int (3 : Int32)), (.int (2 : Int32))]))
        refine Done.step (fun t k => XS.icmpYes X0.here hx rfl (pc0 := 265) (pc' := 284) rfl (hb hby at_265) rfl (flt (by decide)).2.2.2 (by decide) (by decide) k) ?_
        show Done p e below s _ _ _ (T.setTop (mkF m 284 #[.val (.int p1), .val (.long q2), .second, .val (.long q3), .second, .val (.long q4), .second, .val (.long q5), .second, .val (.long q6), .second, .val (.ref b11), .val (.int (2 : Int32)), .val (.ref r13), .val (.int x14), .val (.long e15), .second, .val (.int x17), .val (.long t18), .second, .val (.int (((0 : Int32) + (1 : Int32)) + (1 : Int32))), .unset] []))
        exact blk284 p1 q2 q3 q4 q5 q6 b11 (2 : Int32) r13 x14 e15 x17 t18 (((0 : Int32) + (1 : Int32)) + (1 : Int32)) (PFX (2 : Int32) y0 y1 y2 y3) X0 hx hZ hw hby hml hown hlk hret hnm N0 Z0 e0 A13 E13 (Nat.le_of_ble_eq_true rfl) (own_pos2 _ _ _ _ hy) (own_asc2 _ _ _ _ hy) (own_up2_2 _ _ _ _ _ hy (Int.not_lt.mp (fun q_ => c2 (Int64.lt_iff_toInt_lt.mpr q_))) (Int.not_lt.mp (fun q_ => c3 (Int64.lt_iff_toInt_lt.mpr q_))))
  · show Done p e below s _ _ _ (T.setTop (mkF m 194 #[.val (.int p1), .val (.long q2), .second, .val (.long q3), .second, .val (.long q4), .second, .val (.long q5), .second, .val (.long q6), .second, .val (.ref b11), .val (.int (3 : Int32)), .val (.ref r13), .val (.int x14), .val (.long e15), .second, .val (.int x17), .val (.long t18), .second, .unset, .unset] []))
    refine Done.step (fun t k => XS.iconst X0.here hx rfl (hb hby at_194) k) ?_
    show Done p e below s _ _ _ (T.setTop (mkF m 195 #[.val (.int p1), .val (.long q2), .second, .val (.long q3), .second, .val (.long q4), .second, .val (.long q5), .second, .val (.long q6), .second, .val (.ref b11), .val (.int (3 : Int32)), .val (.ref r13), .val (.int x14), .val (.long e15), .second, .val (.int x17), .val (.long t18), .second, .unset, .unset] [(.int (0 : Int32))]))
    refine Done.step (fun t k => XS.istore X0.here hx rfl (hb hby at_195) rfl (l' := #[.val (.int p1), .val (.long q2), .second, .val (.long q3), .second, .val (.long q4), .second, .val (.long q5), .second, .val (.long q6), .second, .val (.ref b11), .val (.int (3 : Int32)), .val (.ref r13), .val (.int x14), .val (.long e15), .second, .val (.int x17), .val (.long t18), .second, .val (.int (0 : Int32)), .unset]) rfl k) ?_
    show Done p e below s _ _ _ (T.setTop (mkF m 197 #[.val (.int p1), .val (.long q2), .second, .val (.long q3), .second, .val (.long q4), .second, .val (.long q5), .second, .val (.long q6), .second, .val (.ref b11), .val (.int (3 : Int32)), .val (.ref r13), .val (.int x14), .val (.long e15), .second, .val (.int x17), .val (.long t18), .second, .val (.int (0 : Int32)), .unset] []))
    refine Done.step (fun t k => XS.iload X0.here hx rfl (hb hby at_197) rfl k) ?_
    show Done p e below s _ _ _ (T.setTop (mkF m 199 #[.val (.int p1), .val (.long q2), .second, .val (.long q3), .second, .val (.long q4), .second, .val (.long q5), .second, .val (.long q6), .second, .val (.ref b11), .val (.int (3 : Int32)), .val (.ref r13), .val (.int x14), .val (.long e15), .second, .val (.int x17), .val (.long t18), .second, .val (.int (0 : Int32)), .unset] [(.int (3 : Int32))]))
    refine Done.step (fun t k => XS.ifNo X0.here hx rfl (hb hby at_199) rfl ((if0 _ _).trans (tlt (by decide)).2.2.2) k) ?_
    show Done p e below s _ _ _ (T.setTop (mkF m 202 #[.val (.int p1), .val (.long q2), .second, .val (.long q3), .second, .val (.long q4), .second, .val (.long q5), .second, .val (.long q6), .second, .val (.ref b11), .val (.int (3 : Int32)), .val (.ref r13), .val (.int x14), .val (.long e15), .second, .val (.int x17), .val (.long t18), .second, .val (.int (0 : Int32)), .unset] []))
    refine Done.step (fun t k => XS.aload X0.here hx rfl (hb hby at_202) rfl rfl k) ?_
    show Done p e below s _ _ _ (T.setTop (mkF m 204 #[.val (.int p1), .val (.long q2), .second, .val (.long q3), .second, .val (.long q4), .second, .val (.long q5), .second, .val (.long q6), .second, .val (.ref b11), .val (.int (3 : Int32)), .val (.ref r13), .val (.int x14), .val (.long e15), .second, .val (.int x17), .val (.long t18), .second, .val (.int (0 : Int32)), .unset] [(.ref b11)]))
    refine Done.step (fun t k => XS.iconst X0.here hx rfl (hb hby at_204) k) ?_
    show Done p e below s _ _ _ (T.setTop (mkF m 205 #[.val (.int p1), .val (.long q2), .second, .val (.long q3), .second, .val (.long q4), .second, .val (.long q5), .second, .val (.long q6), .second, .val (.ref b11), .val (.int (3 : Int32)), .val (.ref r13), .val (.int x14), .val (.long e15), .second, .val (.int x17), .val (.long t18), .second, .val (.int (0 : Int32)), .unset] [(.int (0 : Int32)), (.ref b11)]))
    refine Done.step (ldJ X0 hx hZ e0 A11 (j := (0 : Int32)) (x := (.long y0)) (by decide) rfl (g := (mkF m 205 #[.val (.int p1), .val (.long q2), .second, .val (.long q3), .second, .val (.long q4), .second, .val (.long q5), .second, .val (.long q6), .second, .val (.ref b11), .val (.int (3 : Int32)), .val (.ref r13), .val (.int x14), .val (.long e15), .second, .val (.int x17), .val (.long t18), .second, .val (.int (0 : Int32)), .unset] [(.int (0 : Int32)), (.ref b11)])) rfl rfl (hb hby at_205)) ?_
    show Done p e below s _ _ _ (T.setTop (mkF m 206 #[.val (.int p1), .val (.long q2), .second, .val (.long q3), .second, .val (.long q4), .second, .val (.long q5), .second, .val (.long q6), .second, .val (.ref b11), .val (.int (3 : Int32)), .val (.ref r13), .val (.int x14), .val (.long e15), .second, .val (.int x17), .val (.long t18), .second, .val (.int (0 : Int32)), .unset] [(.long y0)]))
    refine Done.step (fun t k => XS.lload X0.here hx rfl (hb hby at_206) rfl k) ?_
    show Done p e below s _ _ _ (T.setTop (mkF m 208 #[.val (.int p1), .val (.long q2), .second, .val (.long q3), .second, .val (.long q4), .second, .val (.long q5), .second, .val (.long q6), .second, .val (.ref b11), .val (.int (3 : Int32)), .val (.ref r13), .val (.int x14), .val (.long e15), .second, .val (.int x17), .val (.long t18), .second, .val (.int (0 : Int32)), .unset] [(.long t18), (.long y0)]))
    refine Done.step (fun t k => XS.lcmp X0.here hx rfl (hb hby at_208) rfl k) ?_
    show Done p e below s _ _ _ (T.setTop (mkF m 209 #[.val (.int p1), .val (.long q2), .second, .val (.long q3), .second, .val (.long q4), .second, .val (.long q5), .second, .val (.long q6), .second, .val (.ref b11), .val (.int (3 : Int32)), .val (.ref r13), .val (.int x14), .val (.long e15), .second, .val (.int x17), .val (.long t18), .second, .val (.int (0 : Int32)), .unset] [(.int (lcmpW y0 t18))]))
    by_cases c4 : t18 < y0
    · refine Done.step (fun t k => XS.ifYes X0.here hx rfl (pc0 := 209) (pc' := 218) rfl (hb hby at_209) rfl ((if0 _ _).trans (tlt ((lw_gt _ _).mpr c4)).2.2.1) (by decide) (by decide) k) ?_
      show Done p e below s _ _ _ (T.setTop (mkF m 218 #[.val (.int p1), .val (.long q2), .second, .val (.long q3), .second, .val (.long q4), .second, .val (.long q5), .second, .val (.long q6), .second, .val (.ref b11), .val (.int (3 : Int32)), .val (.ref r13), .val (.int x14), .val (.long e15), .second, .val (.int x17), .val (.long t18), .second, .val (.int (0 : Int32)), .unset] []))
      refine Done.step (fun t k => XS.iload X0.here hx rfl (hb hby at_218) rfl k) ?_
      show Done p e below s _ _ _ (T.setTop (mkF m 220 #[.val (.int p1), .val (.long q2), .second, .val (.long q3), .second, .val (.long q4), .second, .val (.long q5), .second, .val (.long q6), .second, .val (.ref b11), .val (.int (3 : Int32)), .val (.ref r13), .val (.int x14), .val (.long e15), .second, .val (.int x17), .val (.long t18), .second, .val (.int (0 : Int32)), .unset] [(.int (3 : Int32))]))
      refine Done.step (fun t k => XS.iconst X0.here hx rfl (hb hby at_220) k) ?_
      show Done p e below s _ _ _ (T.setTop (mkF m 221 #[.val (.int p1), .val (.long q2), .second, .val (.long q3), .second, .val (.long q4), .second, .val (.long q5), .second, .val (.long q6), .second, .val (.ref b11), .val (.int (3 : Int32)), .val (.ref r13), .val (.int x14), .val (.long e15), .second, .val (.int x17), .val (.long t18), .second, .val (.int (0 : Int32)), .unset] [(.int (1 : Int32)), (.int (3 : Int32))]))
      refine Done.step (fun t k => XS.icmpNo X0.here hx rfl (hb hby at_221) rfl (tlt (by decide)).2.2.2 k) ?_
      show Done p e below s _ _ _ (T.setTop (mkF m 224 #[.val (.int p1), .val (.long q2), .second, .val (.long q3), .second, .val (.long q4), .second, .val (.long q5), .second, .val (.long q6), .second, .val (.ref b11), .val (.int (3 : Int32)), .val (.ref r13), .val (.int x14), .val (.long e15), .second, .val (.int x17), .val (.long t18), .second, .val (.int (0 : Int32)), .unset] []))
      refine Done.step (fun t k => XS.aload X0.here hx rfl (hb hby at_224) rfl rfl k) ?_
      show Done p e below s _ _ _ (T.setTop (mkF m 226 #[.val (.int p1), .val (.long q2), .second, .val (.long q3), .second, .val (.long q4), .second, .val (.long q5), .second, .val (.long q6), .second, .val (.ref b11), .val (.int (3 : Int32)), .val (.ref r13), .val (.int x14), .val (.long e15), .second, .val (.int x17), .val (.long t18), .second, .val (.int (0 : Int32)), .unset] [(.ref b11)]))
      refine Done.step (fun t k => XS.iconst X0.here hx rfl (hb hby at_226) k) ?_
      show Done p e below s _ _ _ (T.setTop (mkF m 227 #[.val (.int p1), .val (.long q2), .second, .val (.long q3), .second, .val (.long q4), .second, .val (.long q5), .second, .val (.long q6), .second, .val (.ref b11), .val (.int (3 : Int32)), .val (.ref r13), .val (.int x14), .val (.long e15), .second, .val (.int x17), .val (.long t18), .second, .val (.int (0 : Int32)), .unset] [(.int (1 : Int32)), (.ref b11)]))
      refine Done.step (ldJ X0 hx hZ e0 A11 (j := (1 : Int32)) (x := (.long y1)) (by decide) rfl (g := (mkF m 227 #[.val (.int p1), .val (.long q2), .second, .val (.long q3), .second, .val (.long q4), .second, .val (.long q5), .second, .val (.long q6), .second, .val (.ref b11), .val (.int (3 : Int32)), .val (.ref r13), .val (.int x14), .val (.long e15), .second, .val (.int x17), .val (.long t18), .second, .val (.int (0 : Int32)), .unset] [(.int (1 : Int32)), (.ref b11)])) rfl rfl (hb hby at_227)) ?_
      show Done p e below s _ _ _ (T.setTop (mkF m 228 #[.val (.int p1), .val (.long q2), .second, .val (.long q3), .second, .val (.long q4), .second, .val (.long q5), .second, .val (.long q6), .second, .val (.ref b11), .val (.int (3 : Int32)), .val (.ref r13), .val (.int x14), .val (.long e15), .second, .val (.int x17), .val (.long t18), .second, .val (.int (0 : Int32)), .unset] [(.long y1)]))
      refine Done.step (fun t k => XS.lload X0.here hx rfl (hb hby at_228) rfl k) ?_
      show Done p e below s _ _ _ (T.setTop (mkF m 230 #[.val (.int p1), .val (.long q2), .second, .val (.long q3), .second, .val (.long q4), .second, .val (.long q5), .second, .val (.long q6), .second, .val (.ref b11), .val (.int (3 : Int32)), .val (.ref r13), .val (.int x14), .val (.long e15), .second, .val (.int x17), .val (.long t18), .second, .val (.int (0 : Int32)), .unset] [(.long t18), (.long y1)]))
      refine Done.step (fun t k => XS.lcmp X0.here hx rfl (hb hby at_230) rfl k) ?_
      show Done p e below s _ _ _ (T.setTop (mkF m 231 #[.val (.int p1), .val (.long q2), .second, .val (.long q3), .second, .val (.long q4), .second, .val (.long q5), .second, .val (.long q6), .second, .val (.ref b11), .val (.int (3 : Int32)), .val (.ref r13), .val (.int x14), .val (.long e15), .second, .val (.int x17), .val (.long t18), .second, .val (.int (0 : Int32)), .unset] [(.int (lcmpW y1 t18))]))
      refine Done.step (fun t k => XS.ifYes X0.here hx rfl (pc0 := 231) (pc' := 240) rfl (hb hby at_231) rfl ((if0 _ _).trans (tlt ((lw_gt _ _).mpr (show t18 < y1 from (by rw [Int64.lt_iff_toInt_lt]; have := Int64.lt_iff_toInt_lt.mp c4; omega)))).2.2.1) (by decide) (by decide) k) ?_
      show Done p e below s _ _ _ (T.setTop (mkF m 240 #[.val (.int p1), .val (.long q2), .second, .val (.long q3), .second, .val (.long q4), .second, .val (.long q5), .second, .val (.long q6), .second, .val (.ref b11), .val (.int (3 : Int32)), .val (.ref r13), .val (.int x14), .val (.long e15), .second, .val (.int x17), .val (.long t18), .second, .val (.int (0 : Int32)), .unset] []))
      refine Done.step (fun t k => XS.iload X0.here hx rfl (hb hby at_240) rfl k) ?_
      show Done p e below s _ _ _ (T.setTop (mkF m 242 #[.val (.int p1), .val (.long q2), .second, .val (.long q3), .second, .val (.long q4), .second, .val (.long q5), .second, .val (.long q6), .second, .val (.ref b11), .val (.int (3 : Int32)), .val (.ref r13), .val (.int x14), .val (.long e15), .second, .val (.int x17), .val (.long t18), .second, .val (.int (0 : Int32)), .unset] [(.int (3 : Int32))]))
      refine Done.step (fun t k => XS.iconst X0.here hx rfl (hb hby at_242) k) ?_
      show Done p e below s _ _ _ (T.setTop (mkF m 243 #[.val (.int p1), .val (.long q2), .second, .val (.long q3), .second, .val (.long q4), .second, .val (.long q5), .second, .val (.long q6), .second, .val (.ref b11), .val (.int (3 : Int32)), .val (.ref r13), .val (.int x14), .val (.long e15), .second, .val (.int x17), .val (.long t18), .second, .val (.int (0 : Int32)), .unset] [(.int (2 : Int32)), (.int (3 : Int32))]))
      refine Done.step (fun t k => XS.icmpNo X0.here hx rfl (hb hby at_243) rfl (tlt (by decide)).2.2.2 k) ?_
      show Done p e below s _ _ _ (T.setTop (mkF m 246 #[.val (.int p1), .val (.long q2), .second, .val (.long q3), .second, .val (.long q4), .second, .val (.long q5), .second, .val (.long q6), .second, .val (.ref b11), .val (.int (3 : Int32)), .val (.ref r13), .val (.int x14), .val (.long e15), .second, .val (.int x17), .val (.long t18), .second, .val (.int (0 : Int32)), .unset] []))
      refine Done.step (fun t k => XS.aload X0.here hx rfl (hb hby at_246) rfl rfl k) ?_
      show Done p e below s _ _ _ (T.setTop (mkF m 248 #[.val (.int p1), .val (.long q2), .second, .val (.long q3), .second, .val (.long q4), .second, .val (.long q5), .second, .val (.long q6), .second, .val (.ref b11), .val (.int (3 : Int32)), .val (.ref r13), .val (.int x14), .val (.long e15), .second, .val (.int x17), .val (.long t18), .second, .val (.int (0 : Int32)), .unset] [(.ref b11)]))
      refine Done.step (fun t k => XS.iconst X0.here hx rfl (hb hby at_248) k) ?_
      show Done p e below s _ _ _ (T.setTop (mkF m 249 #[.val (.int p1), .val (.long q2), .second, .val (.long q3), .second, .val (.long q4), .second, .val (.long q5), .second, .val (.long q6), .second, .val (.ref b11), .val (.int (3 : Int32)), .val (.ref r13), .val (.int x14), .val (.long e15), .second, .val (.int x17), .val (.long t18), .second, .val (.int (0 : Int32)), .unset] [(.int (2 : Int32)), (.ref b11)]))
      refine Done.step (ldJ X0 hx hZ e0 A11 (j := (2 : Int32)) (x := (.long y2)) (by decide) rfl (g := (mkF m 249 #[.val (.int p1), .val (.long q2), .second, .val (.long q3), .second, .val (.long q4), .second, .val (.long q5), .second, .val (.long q6), .second, .val (.ref b11), .val (.int (3 : Int32)), .val (.ref r13), .val (.int x14), .val (.long e15), .second, .val (.int x17), .val (.long t18), .second, .val (.int (0 : Int32)), .unset] [(.int (2 : Int32)), (.ref b11)])) rfl rfl (hb hby at_249)) ?_
      show Done p e below s _ _ _ (T.setTop (mkF m 250 #[.val (.int p1), .val (.long q2), .second, .val (.long q3), .second, .val (.long q4), .second, .val (.long q5), .second, .val (.long q6), .second, .val (.ref b11), .val (.int (3 : Int32)), .val (.ref r13), .val (.int x14), .val (.long e15), .second, .val (.int x17), .val (.long t18), .second, .val (.int (0 : Int32)), .unset] [(.long y2)]))
      refine Done.step (fun t k => XS.lload X0.here hx rfl (hb hby at_250) rfl k) ?_
      show Done p e below s _ _ _ (T.setTop (mkF m 252 #[.val (.int p1), .val (.long q2), .second, .val (.long q3), .second, .val (.long q4), .second, .val (.long q5), .second, .val (.long q6), .second, .val (.ref b11), .val (.int (3 : Int32)), .val (.ref r13), .val (.int x14), .val (.long e15), .second, .val (.int x17), .val (.long t18), .second, .val (.int (0 : Int32)), .unset] [(.long t18), (.long y2)]))
      refine Done.step (fun t k => XS.lcmp X0.here hx rfl (hb hby at_252) rfl k) ?_
      show Done p e below s _ _ _ (T.setTop (mkF m 253 #[.val (.int p1), .val (.long q2), .second, .val (.long q3), .second, .val (.long q4), .second, .val (.long q5), .second, .val (.long q6), .second, .val (.ref b11), .val (.int (3 : Int32)), .val (.ref r13), .val (.int x14), .val (.long e15), .second, .val (.int x17), .val (.long t18), .second, .val (.int (0 : Int32)), .unset] [(.int (lcmpW y2 t18))]))
      refine Done.step (fun t k => XS.ifYes X0.here hx rfl (pc0 := 253) (pc' := 262) rfl (hb hby at_253) rfl ((if0 _ _).trans (tlt ((lw_gt _ _).mpr (show t18 < y2 from (by rw [Int64.lt_iff_toInt_lt]; have := Int64.lt_iff_toInt_lt.mp c4; omega)))).2.2.1) (by decide) (by decide) k) ?_
      show Done p e below s _ _ _ (T.setTop (mkF m 262 #[.val (.int p1), .val (.long q2), .second, .val (.long q3), .second, .val (.long q4), .second, .val (.long q5), .second, .val (.long q6), .second, .val (.ref b11), .val (.int (3 : Int32)), .val (.ref r13), .val (.int x14), .val (.long e15), .second, .val (.int x17), .val (.long t18), .second, .val (.int (0 : Int32)), .unset] []))
      refine Done.step (fun t k => XS.iload X0.here hx rfl (hb hby at_262) rfl k) ?_
      show Done p e below s _ _ _ (T.setTop (mkF m 264 #[.val (.int p1), .val (.long q2), .second, .val (.long q3), .second, .val (.long q4), .second, .val (.long q5), .second, .val (.long q6), .second, .val (.ref b11), .val (.int (3 : Int32)), .val (.ref r13), .val (.int x14), .val (.long e15), .second, .val (.int x17), .val (.long t18), .second, .val (.int (0 : Int32)), .unset] [(.int (3 : Int32))]))
      refine Done.step (fun t k => XS.iconst X0.here hx rfl (hb hby at_264) k) ?_
      show Done p e below s _ _ _ (T.setTop (mkF m 265 #[.val (.int p1), .val (.long q2), .second, .val (.long q3), .second, .val (.long q4), .second, .val (.long q5), .second, .val (.long q6), .second, .val (.ref b11), .val (.int (3 : Int32)), .val (.ref r13), .val (.int x14), .val (.long e15), .second, .val (.int x17), .val (.long t18), .second, .val (.int (0 : Int32)), .unset] [(.int (3 : Int32)), (.int (3 : Int32))]))
      refine Done.step (fun t k => XS.icmpYes X0.here hx rfl (pc0 := 265) (pc' := 284) rfl (hb hby at_265) rfl (flt (by decide)).2.2.2 (by decide) (by decide) k) ?_
      show Done p e below s _ _ _ (T.setTop (mkF m 284 #[.val (.int p1), .val (.long q2), .second, .val (.long q3), .second, .val (.long q4), .second, .val (.long q5), .second, .val (.long q6), .second, .val (.ref b11), .val (.int (3 : Int32)), .val (.ref r13), .val (.int x14), .val (.long e15), .second, .val (.int x17), .val (.long t18), .second, .val (.int (0 : Int32)), .unset] []))
      exact blk284 p1 q2 q3 q4 q5 q6 b11 (3 : Int32) r13 x14 e15 x17 t18 (0 : Int32) (PFX (3 : Int32) y0 y1 y2 y3) X0 hx hZ hw hby hml hown hlk hret hnm N0 Z0 e0 A13 E13 (Nat.le_of_ble_eq_true rfl) (own_pos3 _ _ _ _ hy) (own_asc3 _ _ _ _ hy) (own_up3_0 _ _ _ _ _ hy (Int64.lt_iff_toInt_lt.mp c4))
    · refine Done.step (fun t k => XS.ifNo X0.here hx rfl (hb hby at_209) rfl ((if0 _ _).trans (flt (fun q_ => c4 ((lw_gt _ _).mp q_))).2.2.1) k) ?_
      show Done p e below s _ _ _ (T.setTop (mkF m 212 #[.val (.int p1), .val (.long q2), .second, .val (.long q3), .second, .val (.long q4), .second, .val (.long q5), .second, .val (.long q6), .second, .val (.ref b11), .val (.int (3 : Int32)), .val (.ref r13), .val (.int x14), .val (.long e15), .second, .val (.int x17), .val (.long t18), .second, .val (.int (0 : Int32)), .unset] []))
      refine Done.step (fun t k => XS.iload X0.here hx rfl (hb hby at_212) rfl k) ?_
      show Done p e below s _ _ _ (T.setTop (mkF m 214 #[.val (.int p1), .val (.long q2), .second, .val (.long q3), .second, .val (.long q4), .second, .val (.long q5), .second, .val (.long q6), .second, .val (.ref b11), .val (.int (3 : Int32)), .val (.ref r13), .val (.int x14), .val (.long e15), .second, .val (.int x17), .val (.long t18), .second, .val (.int (0 : Int32)), .unset] [(.int (0 : Int32))]))
      refine Done.step (fun t k => XS.iconst X0.here hx rfl (hb hby at_214) k) ?_
      show Done p e below s _ _ _ (T.setTop (mkF m 215 #[.val (.int p1), .val (.long q2), .second, .val (.long q3), .second, .val (.long q4), .second, .val (.long q5), .second, .val (.long q6), .second, .val (.ref b11), .val (.int (3 : Int32)), .val (.ref r13), .val (.int x14), .val (.long e15), .second, .val (.int x17), .val (.long t18), .second, .val (.int (0 : Int32)), .unset] [(.int (1 : Int32)), (.int (0 : Int32))]))
      refine Done.step (fun t k => XS.iadd X0.here hx rfl (hb hby at_215) rfl k) ?_
      show Done p e below s _ _ _ (T.setTop (mkF m 216 #[.val (.int p1), .val (.long q2), .second, .val (.long q3), .second, .val (.long q4), .second, .val (.long q5), .second, .val (.long q6), .second, .val (.ref b11), .val (.int (3 : Int32)), .val (.ref r13), .val (.int x14), .val (.long e15), .second, .val (.int x17), .val (.long t18), .second, .val (.int (0 : Int32)), .unset] [(.int ((0 : Int32) + (1 : Int32)))]))
      refine Done.step (fun t k => XS.istore X0.here hx rfl (hb hby at_216) rfl (l' := #[.val (.int p1), .val (.long q2), .second, .val (.long q3), .second, .val (.long q4), .second, .val (.long q5), .second, .val (.long q6), .second, .val (.ref b11), .val (.int (3 : Int32)), .val (.ref r13), .val (.int x14), .val (.long e15), .second, .val (.int x17), .val (.long t18), .second, .val (.int ((0 : Int32) + (1 : Int32))), .unset]) rfl k) ?_
      show Done p e below s _ _ _ (T.setTop (mkF m 218 #[.val (.int p1), .val (.long q2), .second, .val (.long q3), .second, .val (.long q4), .second, .val (.long q5), .second, .val (.long q6), .second, .val (.ref b11), .val (.int (3 : Int32)), .val (.ref r13), .val (.int x14), .val (.long e15), .second, .val (.int x17), .val (.long t18), .second, .val (.int ((0 : Int32) + (1 : Int32))), .unset] []))
      refine Done.step (fun t k => XS.iload X0.here hx rfl (hb hby at_218) rfl k) ?_
      show Done p e below s _ _ _ (T.setTop (mkF m 220 #[.val (.int p1), .val (.long q2), .second, .val (.long q3), .second, .val (.long q4), .second, .val (.long q5), .second, .val (.long q6), .second, .val (.ref b11), .val (.int (3 : Int32)), .val (.ref r13), .val (.int x14), .val (.long e15), .second, .val (.int x17), .val (.long t18), .second, .val (.int ((0 : Int32) + (1 : Int32))), .unset] [(.int (3 : Int32))]))
      refine Done.step (fun t k => XS.iconst X0.here hx rfl (hb hby at_220) k) ?_
      show Done p e below s _ _ _ (T.setTop (mkF m 221 #[.val (.int p1), .val (.long q2), .second, .val (.long q3), .second, .val (.long q4), .second, .val (.long q5), .second, .val (.long q6), .second, .val (.ref b11), .val (.int (3 : Int32)), .val (.ref r13), .val (.int x14), .val (.long e15), .second, .val (.int x17), .val (.long t18), .second, .val (.int ((0 : Int32) + (1 : Int32))), .unset] [(.int (1 : Int32)), (.int (3 : Int32))]))
      refine Done.step (fun t k => XS.icmpNo X0.here hx rfl (hb hby at_221) rfl (tlt (by decide)).2.2.2 k) ?_
      show Done p e below s _ _ _ (T.setTop (mkF m 224 #[.val (.int p1), .val (.long q2), .second, .val (.long q3), .second, .val (.long q4), .second, .val (.long q5), .second, .val (.long q6), .second, .val (.ref b11), .val (.int (3 : Int32)), .val (.ref r13), .val (.int x14), .val (.long e15), .second, .val (.int x17), .val (.long t18), .second, .val (.int ((0 : Int32) + (1 : Int32))), .unset] []))
      refine Done.step (fun t k => XS.aload X0.here hx rfl (hb hby at_224) rfl rfl k) ?_
      show Done p e below s _ _ _ (T.setTop (mkF m 226 #[.val (.int p1), .val (.long q2), .second, .val (.long q3), .second, .val (.long q4), .second, .val (.long q5), .second, .val (.long q6), .second, .val (.ref b11), .val (.int (3 : Int32)), .val (.ref r13), .val (.int x14), .val (.long e15), .second, .val (.int x17), .val (.long t18), .second, .val (.int ((0 : Int32) + (1 : Int32))), .unset] [(.ref b11)]))
      refine Done.step (fun t k => XS.iconst X0.here hx rfl (hb hby at_226) k) ?_
      show Done p e below s _ _ _ (T.setTop (mkF m 227 #[.val (.int p1), .val (.long q2), .second, .val (.long q3), .second, .val (.long q4), .second, .val (.long q5), .second, .val (.long q6), .second, .val (.ref b11), .val (.int (3 : Int32)), .val (.ref r13), .val (.int x14), .val (.long e15), .second, .val (.int x17), .val (.long t18), .second, .val (.int ((0 : Int32) + (1 : Int32))), .unset] [(.int (1 : Int32)), (.ref b11)]))
      refine Done.step (ldJ X0 hx hZ e0 A11 (j := (1 : Int32)) (x := (.long y1)) (by decide) rfl (g := (mkF m 227 #[.val (.int p1), .val (.long q2), .second, .val (.long q3), .second, .val (.long q4), .second, .val (.long q5), .second, .val (.long q6), .second, .val (.ref b11), .val (.int (3 : Int32)), .val (.ref r13), .val (.int x14), .val (.long e15), .second, .val (.int x17), .val (.long t18), .second, .val (.int ((0 : Int32) + (1 : Int32))), .unset] [(.int (1 : Int32)), (.ref b11)])) rfl rfl (hb hby at_227)) ?_
      show Done p e below s _ _ _ (T.setTop (mkF m 228 #[.val (.int p1), .val (.long q2), .second, .val (.long q3), .second, .val (.long q4), .second, .val (.long q5), .second, .val (.long q6), .second, .val (.ref b11), .val (.int (3 : Int32)), .val (.ref r13), .val (.int x14), .val (.long e15), .second, .val (.int x17), .val (.long t18), .second, .val (.int ((0 : Int32) + (1 : Int32))), .unset] [(.long y1)]))
      refine Done.step (fun t k => XS.lload X0.here hx rfl (hb hby at_228) rfl k) ?_
      show Done p e below s _ _ _ (T.setTop (mkF m 230 #[.val (.int p1), .val (.long q2), .second, .val (.long q3), .second, .val (.long q4), .second, .val (.long q5), .second, .val (.long q6), .second, .val (.ref b11), .val (.int (3 : Int32)), .val (.ref r13), .val (.int x14), .val (.long e15), .second, .val (.int x17), .val (.long t18), .second, .val (.int ((0 : Int32) + (1 : Int32))), .unset] [(.long t18), (.long y1)]))
      refine Done.step (fun t k => XS.lcmp X0.here hx rfl (hb hby at_230) rfl k) ?_
      show Done p e below s _ _ _ (T.setTop (mkF m 231 #[.val (.int p1), .val (.long q2), .second, .val (.long q3), .second, .val (.long q4), .second, .val (.long q5), .second, .val (.long q6), .second, .val (.ref b11), .val (.int (3 : Int32)), .val (.ref r13), .val (.int x14), .val (.long e15), .second, .val (.int x17), .val (.long t18), .second, .val (.int ((0 : Int32) + (1 : Int32))), .unset] [(.int (lcmpW y1 t18))]))
      by_cases c5 : t18 < y1
      · refine Done.step (fun t k => XS.ifYes X0.here hx rfl (pc0 := 231) (pc' := 240) rfl (hb hby at_231) rfl ((if0 _ _).trans (tlt ((lw_gt _ _).mpr c5)).2.2.1) (by decide) (by decide) k) ?_
        show Done p e below s _ _ _ (T.setTop (mkF m 240 #[.val (.int p1), .val (.long q2), .second, .val (.long q3), .second, .val (.long q4), .second, .val (.long q5), .second, .val (.long q6), .second, .val (.ref b11), .val (.int (3 : Int32)), .val (.ref r13), .val (.int x14), .val (.long e15), .second, .val (.int x17), .val (.long t18), .second, .val (.int ((0 : Int32) + (1 : Int32))), .unset] []))
        refine Done.step (fun t k => XS.iload X0.here hx rfl (hb hby at_240) rfl k) ?_
        show Done p e below s _ _ _ (T.setTop (mkF m 242 #[.val (.int p1), .val (.long q2), .second, .val (.long q3), .second, .val (.long q4), .second, .val (.long q5), .second, .val (.long q6), .second, .val (.ref b11), .val (.int (3 : Int32)), .val (.ref r13), .val (.int x14), .val (.long e15), .second, .val (.int x17), .val (.long t18), .second, .val (.int ((0 : Int32) + (1 : Int32))), .unset] [(.int (3 : Int32))]))
        refine Done.step (fun t k => XS.iconst X0.here hx rfl (hb hby at_242) k) ?_
        show Done p e below s _ _ _ (T.setTop (mkF m 243 #[.val (.int p1), .val (.long q2), .second, .val (.long q3), .second, .val (.long q4), .second, .val (.long q5), .second, .val (.long q6), .second, .val (.ref b11), .val (.int (3 : Int32)), .val (.ref r13), .val (.int x14), .val (.long e15), .second, .val (.int x17), .val (.long t18), .second, .val (.int ((0 : Int32) + (1 : Int32))), .unset] [(.int (2 : Int32)), (.int (3 : Int32))]))
        refine Done.step (fun t k => XS.icmpNo X0.here hx rfl (hb hby at_243) rfl (tlt (by decide)).2.2.2 k) ?_
        show Done p e below s _ _ _ (T.setTop (mkF m 246 #[.val (.int p1), .val (.long q2), .second, .val (.long q3), .second, .val (.long q4), .second, .val (.long q5), .second, .val (.long q6), .second, .val (.ref b11), .val (.int (3 : Int32)), .val (.ref r13), .val (.int x14), .val (.long e15), .second, .val (.int x17), .val (.long t18), .second, .val (.int ((0 : Int32) + (1 : Int32))), .unset] []))
        refine Done.step (fun t k => XS.aload X0.here hx rfl (hb hby at_246) rfl rfl k) ?_
        show Done p e below s _ _ _ (T.setTop (mkF m 248 #[.val (.int p1), .val (.long q2), .second, .val (.long q3), .second, .val (.long q4), .second, .val (.long q5), .second, .val (.long q6), .second, .val (.ref b11), .val (.int (3 : Int32)), .val (.ref r13), .val (.int x14), .val (.long e15), .second, .val (.int x17), .val (.long t18), .second, .val (.int ((0 : Int32) + (1 : Int32))), .unset] [(.ref b11)]))
        refine Done.step (fun t k => XS.iconst X0.here hx rfl (hb hby at_248) k) ?_
        show Done p e below s _ _ _ (T.setTop (mkF m 249 #[.val (.int p1), .val (.long q2), .second, .val (.long q3), .second, .val (.long q4), .second, .val (.long q5), .second, .val (.long q6), .second, .val (.ref b11), .val (.int (3 : Int32)), .val (.ref r13), .val (.int x14), .val (.long e15), .second, .val (.int x17), .val (.long t18), .second, .val (.int ((0 : Int32) + (1 : Int32))), .unset] [(.int (2 : Int32)), (.ref b11)]))
        refine Done.step (ldJ X0 hx hZ e0 A11 (j := (2 : Int32)) (x := (.long y2)) (by decide) rfl (g := (mkF m 249 #[.val (.int p1), .val (.long q2), .second, .val (.long q3), .second, .val (.long q4), .second, .val (.long q5), .second, .val (.long q6), .second, .val (.ref b11), .val (.int (3 : Int32)), .val (.ref r13), .val (.int x14), .val (.long e15), .second, .val (.int x17), .val (.long t18), .second, .val (.int ((0 : Int32) + (1 : Int32))), .unset] [(.int (2 : Int32)), (.ref b11)])) rfl rfl (hb hby at_249)) ?_
        show Done p e below s _ _ _ (T.setTop (mkF m 250 #[.val (.int p1), .val (.long q2), .second, .val (.long q3), .second, .val (.long q4), .second, .val (.long q5), .second, .val (.long q6), .second, .val (.ref b11), .val (.int (3 : Int32)), .val (.ref r13), .val (.int x14), .val (.long e15), .second, .val (.int x17), .val (.long t18), .second, .val (.int ((0 : Int32) + (1 : Int32))), .unset] [(.long y2)]))
        refine Done.step (fun t k => XS.lload X0.here hx rfl (hb hby at_250) rfl k) ?_
        show Done p e below s _ _ _ (T.setTop (mkF m 252 #[.val (.int p1), .val (.long q2), .second, .val (.long q3), .second, .val (.long q4), .second, .val (.long q5), .second, .val (.long q6), .second, .val (.ref b11), .val (.int (3 : Int32)), .val (.ref r13), .val (.int x14), .val (.long e15), .second, .val (.int x17), .val (.long t18), .second, .val (.int ((0 : Int32) + (1 : Int32))), .unset] [(.long t18), (.long y2)]))
        refine Done.step (fun t k => XS.lcmp X0.here hx rfl (hb hby at_252) rfl k) ?_
        show Done p e below s _ _ _ (T.setTop (mkF m 253 #[.val (.int p1), .val (.long q2), .second, .val (.long q3), .second, .val (.long q4), .second, .val (.long q5), .second, .val (.long q6), .second, .val (.ref b11), .val (.int (3 : Int32)), .val (.ref r13), .val (.int x14), .val (.long e15), .second, .val (.int x17), .val (.long t18), .second, .val (.int ((0 : Int32) + (1 : Int32))), .unset] [(.int (lcmpW y2 t18))]))
        refine Done.step (fun t k => XS.ifYes X0.here hx rfl (pc0 := 253) (pc' := 262) rfl (hb hby at_253) rfl ((if0 _ _).trans (tlt ((lw_gt _ _).mpr (show t18 < y2 from (by rw [Int64.lt_iff_toInt_lt]; have := Int64.lt_iff_toInt_lt.mp c5; omega)))).2.2.1) (by decide) (by decide) k) ?_
        show Done p e below s _ _ _ (T.setTop (mkF m 262 #[.val (.int p1), .val (.long q2), .second, .val (.long q3), .second, .val (.long q4), .second, .val (.long q5), .second, .val (.long q6), .second, .val (.ref b11), .val (.int (3 : Int32)), .val (.ref r13), .val (.int x14), .val (.long e15), .second, .val (.int x17), .val (.long t18), .second, .val (.int ((0 : Int32) + (1 : Int32))), .unset] []))
        refine Done.step (fun t k => XS.iload X0.here hx rfl (hb hby at_262) rfl k) ?_
        show Done p e below s _ _ _ (T.setTop (mkF m 264 #[.val (.int p1), .val (.long q2), .second, .val (.long q3), .second, .val (.long q4), .second, .val (.long q5), .second, .val (.long q6), .second, .val (.ref b11), .val (.int (3 : Int32)), .val (.ref r13), .val (.int x14), .val (.long e15), .second, .val (.int x17), .val (.long t18), .second, .val (.int ((0 : Int32) + (1 : Int32))), .unset] [(.int (3 : Int32))]))
        refine Done.step (fun t k => XS.iconst X0.here hx rfl (hb hby at_264) k) ?_
        show Done p e below s _ _ _ (T.setTop (mkF m 265 #[.val (.int p1), .val (.long q2), .second, .val (.long q3), .second, .val (.long q4), .second, .val (.long q5), .second, .val (.long q6), .second, .val (.ref b11), .val (.int (3 : Int32)), .val (.ref r13), .val (.int x14), .val (.long e15), .second, .val (.int x17), .val (.long t18), .second, .val (.int ((0 : Int32) + (1 : Int32))), .unset] [(.int (3 : Int32)), (.int (3 : Int32))]))
        refine Done.step (fun t k => XS.icmpYes X0.here hx rfl (pc0 := 265) (pc' := 284) rfl (hb hby at_265) rfl (flt (by decide)).2.2.2 (by decide) (by decide) k) ?_
        show Done p e below s _ _ _ (T.setTop (mkF m 284 #[.val (.int p1), .val (.long q2), .second, .val (.long q3), .second, .val (.long q4), .second, .val (.long q5), .second, .val (.long q6), .second, .val (.ref b11), .val (.int (3 : Int32)), .val (.ref r13), .val (.int x14), .val (.long e15), .second, .val (.int x17), .val (.long t18), .second, .val (.int ((0 : Int32) + (1 : Int32))), .unset] []))
        exact blk284 p1 q2 q3 q4 q5 q6 b11 (3 : Int32) r13 x14 e15 x17 t18 ((0 : Int32) + (1 : Int32)) (PFX (3 : Int32) y0 y1 y2 y3) X0 hx hZ hw hby hml hown hlk hret hnm N0 Z0 e0 A13 E13 (Nat.le_of_ble_eq_true rfl) (own_pos3 _ _ _ _ hy) (own_asc3 _ _ _ _ hy) (own_up3_1 _ _ _ _ _ hy (Int.not_lt.mp (fun q_ => c4 (Int64.lt_iff_toInt_lt.mpr q_))) (Int64.lt_iff_toInt_lt.mp c5))
      · refine Done.step (fun t k => XS.ifNo X0.here hx rfl (hb hby at_231) rfl ((if0 _ _).trans (flt (fun q_ => c5 ((lw_gt _ _).mp q_))).2.2.1) k) ?_
        show Done p e below s _ _ _ (T.setTop (mkF m 234 #[.val (.int p1), .val (.long q2), .second, .val (.long q3), .second, .val (.long q4), .second, .val (.long q5), .second, .val (.long q6), .second, .val (.ref b11), .val (.int (3 : Int32)), .val (.ref r13), .val (.int x14), .val (.long e15), .second, .val (.int x17), .val (.long t18), .second, .val (.int ((0 : Int32) + (1 : Int32))), .unset] []))
        refine Done.step (fun t k => XS.iload X0.here hx rfl (hb hby at_234) rfl k) ?_
        show Done p e below s _ _ _ (T.setTop (mkF m 236 #[.val (.int p1), .val (.long q2), .second, .val (.long q3), .second, .val (.long q4), .second, .val (.long q5), .second, .val (.long q6), .second, .val (.ref b11), .val (.int (3 : Int32)), .val (.ref r13), .val (.int x14), .val (.long e15), .second, .val (.int x17), .val (.long t18), .second, .val (.int ((0 : Int32) + (1 : Int32))), .unset] [(.int ((0 : Int32) + (1 : Int32)))]))
        refine Done.step (fun t k => XS.iconst X0.here hx rfl (hb hby at_236) k) ?_
        show Done p e below s _ _ _ (T.setTop (mkF m 237 #[.val (.int p1), .val (.long q2), .second, .val (.long q3), .second, .val (.long q4), .second, .val (.long q5), .second, .val (.long q6), .second, .val (.ref b11), .val (.int (3 : Int32)), .val (.ref r13), .val (.int x14), .val (.long e15), .second, .val (.int x17), .val (.long t18), .second, .val (.int ((0 : Int32) + (1 : Int32))), .unset] [(.int (1 : Int32)), (.int ((0 : Int32) + (1 : Int32)))]))
        refine Done.step (fun t k => XS.iadd X0.here hx rfl (hb hby at_237) rfl k) ?_
        show Done p e below s _ _ _ (T.setTop (mkF m 238 #[.val (.int p1), .val (.long q2), .second, .val (.long q3), .second, .val (.long q4), .second, .val (.long q5), .second, .val (.long q6), .second, .val (.ref b11), .val (.int (3 : Int32)), .val (.ref r13), .val (.int x14), .val (.long e15), .second, .val (.int x17), .val (.long t18), .second, .val (.int ((0 : Int32) + (1 : Int32))), .unset] [(.int (((0 : Int32) + (1 : Int32)) + (1 : Int32)))]))
        refine Done.step (fun t k => XS.istore X0.here hx rfl (hb hby at_238) rfl (l' := #[.val (.int p1), .val (.long q2), .second, .val (.long q3), .second, .val (.long q4), .second, .val (.long q5), .second, .val (.long q6), .second, .val (.ref b11), .val (.int (3 : Int32)), .val (.ref r13), .val (.int x14), .val (.long e15), .second, .val (.int x17), .val (.long t18), .second, .val (.int (((0 : Int32) + (1 : Int32)) + (1 : Int32))), .unset]) rfl k) ?_
        show Done p e below s _ _ _ (T.setTop (mkF m 240 #[.val (.int p1), .val (.long q2), .second, .val (.long q3), .second, .val (.long q4), .second, .val (.long q5), .second, .val (.long q6), .second, .val (.ref b11), .val (.int (3 : Int32)), .val (.ref r13), .val (.int x14), .val (.long e15), .second, .val (.int x17), .val (.long t18), .second, .val (.int (((0 : Int32) + (1 : Int32)) + (1 : Int32))), .unset] []))
        refine Done.step (fun t k => XS.iload X0.here hx rfl (hb hby at_240) rfl k) ?_
        show Done p e below s _ _ _ (T.setTop (mkF m 242 #[.val (.int p1), .val (.long q2), .second, .val (.long q3), .second, .val (.long q4), .second, .val (.long q5), .second, .val (.long q6), .second, .val (.ref b11), .val (.int (3 : Int32)), .val (.ref r13), .val (.int x14), .val (.long e15), .second, .val (.int x17), .val (.long t18), .second, .val (.int (((0 : Int32) + (1 : Int32)) + (1 : Int32))), .unset] [(.int (3 : Int32))]))
        refine Done.step (fun t k => XS.iconst X0.here hx rfl (hb hby at_242) k) ?_
        show Done p e below s _ _ _ (T.setTop (mkF m 243 #[.val (.int p1), .val (.long q2), .second, .val (.long q3), .second, .val (.long q4), .second, .val (.long q5), .second, .val (.long q6), .second, .val (.ref b11), .val (.int (3 : Int32)), .val (.ref r13), .val (.int x14), .val (.long e15), .second, .val (.int x17), .val (.long t18), .second, .val (.int (((0 : Int32) + (1 : Int32)) + (1 : Int32))), .unset] [(.int (2 : Int32)), (.int (3 : Int32))]))
        refine Done.step (fun t k => XS.icmpNo X0.here hx rfl (hb hby at_243) rfl (tlt (by decide)).2.2.2 k) ?_
        show Done p e below s _ _ _ (T.setTop (mkF m 246 #[.val (.int p1), .val (.long q2), .second, .val (.long q3), .second, .val (.long q4), .second, .val (.long q5), .second, .val (.long q6), .second, .val (.ref b11), .val (.int (3 : Int32)), .val (.ref r13), .val (.int x14), .val (.long e15), .second, .val (.int x17), .val (.long t18), .second, .val (.int (((0 : Int32) + (1 : Int32)) + (1 : Int32))), .unset] []))
        refine Done.step (fun t k => XS.aload X0.here hx rfl (hb hby at_246) rfl rfl k) ?_
        show Done p e below s _ _ _ (T.setTop (mkF m 248 #[.val (.int p1), .val (.long q2), .second, .val (.long q3), .second, .val (.long q4), .second, .val (.long q5), .second, .val (.long q6), .second, .val (.ref b11), .val (.int (3 : Int32)), .val (.ref r13), .val (.int x14), .val (.long e15), .second, .val (.int x17), .val (.long t18), .second, .val (.int (((0 : Int32) + (1 : Int32)) + (1 : Int32))), .unset] [(.ref b11)]))
        refine Done.step (fun t k => XS.iconst X0.here hx rfl (hb hby at_248) k) ?_
        show Done p e below s _ _ _ (T.setTop (mkF m 249 #[.val (.int p1), .val (.long q2), .second, .val (.long q3), .second, .val (.long q4), .second, .val (.long q5), .second, .val (.long q6), .second, .val (.ref b11), .val (.int (3 : Int32)), .val (.ref r13), .val (.int x14), .val (.long e15), .second, .val (.int x17), .val (.long t18), .second, .val (.int (((0 : Int32) + (1 : Int32)) + (1 : Int32))), .unset] [(.int (2 : Int32)), (.ref b11)]))
        refine Done.step (ldJ X0 hx hZ e0 A11 (j := (2 : Int32)) (x := (.long y2)) (by decide) rfl (g := (mkF m 249 #[.val (.int p1), .val (.long q2), .second, .val (.long q3), .second, .val (.long q4), .second, .val (.long q5), .second, .val (.long q6), .second, .val (.ref b11), .val (.int (3 : Int32)), .val (.ref r13), .val (.int x14), .val (.long e15), .second, .val (.int x17), .val (.long t18), .second, .val (.int (((0 : Int32) + (1 : Int32)) + (1 : Int32))), .unset] [(.int (2 : Int32)), (.ref b11)])) rfl rfl (hb hby at_249)) ?_
        show Done p e below s _ _ _ (T.setTop (mkF m 250 #[.val (.int p1), .val (.long q2), .second, .val (.long q3), .second, .val (.long q4), .second, .val (.long q5), .second, .val (.long q6), .second, .val (.ref b11), .val (.int (3 : Int32)), .val (.ref r13), .val (.int x14), .val (.long e15), .second, .val (.int x17), .val (.long t18), .second, .val (.int (((0 : Int32) + (1 : Int32)) + (1 : Int32))), .unset] [(.long y2)]))
        refine Done.step (fun t k => XS.lload X0.here hx rfl (hb hby at_250) rfl k) ?_
        show Done p e below s _ _ _ (T.setTop (mkF m 252 #[.val (.int p1), .val (.long q2), .second, .val (.long q3), .second, .val (.long q4), .second, .val (.long q5), .second, .val (.long q6), .second, .val (.ref b11), .val (.int (3 : Int32)), .val (.ref r13), .val (.int x14), .val (.long e15), .second, .val (.int x17), .val (.long t18), .second, .val (.int (((0 : Int32) + (1 : Int32)) + (1 : Int32))), .unset] [(.long t18), (.long y2)]))
        refine Done.step (fun t k => XS.lcmp X0.here hx rfl (hb hby at_252) rfl k) ?_
        show Done p e below s _ _ _ (T.setTop (mkF m 253 #[.val (.int p1), .val (.long q2), .second, .val (.long q3), .second, .val (.long q4), .second, .val (.long q5), .second, .val (.long q6), .second, .val (.ref b11), .val (.int (3 : Int32)), .val (.ref r13), .val (.int x14), .val (.long e15), .second, .val (.int x17), .val (.long t18), .second, .val (.int (((0 : Int32) + (1 : Int32)) + (1 : Int32))), .unset] [(.int (lcmpW y2 t18))]))
        by_cases c6 : t18 < y2
        · refine Done.step (fun t k => XS.ifYes X0.here hx rfl (pc0 := 253) (pc' := 262) rfl (hb hby at_253) rfl ((if0 _ _).trans (tlt ((lw_gt _ _).mpr c6)).2.2.1) (by decide) (by decide) k) ?_
          show Done p e below s _ _ _ (T.setTop (mkF m 262 #[.val (.int p1), .val (.long q2), .second, .val (.long q3), .second, .val (.long q4), .second, .val (.long q5), .second, .val (.long q6), .second, .val (.ref b11), .val (.int (3 : Int32)), .val (.ref r13), .val (.int x14), .val (.long e15), .second, .val (.int x17), .val (.long t18), .second, .val (.int (((0 : Int32) + (1 : Int32)) + (1 : Int32))), .unset] []))
          refine Done.step (fun t k => XS.iload X0.here hx rfl (hb hby at_262) rfl k) ?_
          show Done p e below s _ _ _ (T.setTop (mkF m 264 #[.val (.int p1), .val (.long q2), .second, .val (.long q3), .second, .val (.long q4), .second, .val (.long q5), .second, .val (.long q6), .second, .val (.ref b11), .val (.int (3 : Int32)), .val (.ref r13), .val (.int x14), .val (.long e15), .second, .val (.int x17), .val (.long t18), .second, .val (.int (((0 : Int32) + (1 : Int32)) + (1 : Int32))), .unset] [(.int (3 : Int32))]))
          refine Done.step (fun t k => XS.iconst X0.here hx rfl (hb hby at_264) k) ?_
          show Done p e below s _ _ _ (T.setTop (mkF m 265 #[.val (.int p1), .val (.long q2), .second, .val (.long q3), .second, .val (.long q4), .second, .val (.long q5), .second, .val (.long q6), .second, .val (.ref b11), .val (.int (3 : Int32)), .val (.ref r13), .val (.int x14), .val (.long e15), .second, .val (.int x17), .val (.long t18), .second, .val (.int (((0 : Int32) + (1 : Int32)) + (1 : Int32))), .unset] [(.int (3 : Int32)), (.int (3 : Int32))]))
          refine Done.step (fun t k => XS.icmpYes X0.here hx rfl (pc0 := 265) (pc' := 284) rfl (hb hby at_265) rfl (flt (by decide)).2.2.2 (by decide) (by decide) k) ?_
          show Done p e below s _ _ _ (T.setTop (mkF m 284 #[.val (.int p1), .val (.long q2), .second, .val (.long q3), .second, .val (.long q4), .second, .val (.long q5), .second, .val (.long q6), .second, .val (.ref b11), .val (.int (3 : Int32)), .val (.ref r13), .val (.int x14), .val (.long e15), .second, .val (.int x17), .val (.long t18), .second, .val (.int (((0 : Int32) + (1 : Int32)) + (1 : Int32))), .unset] []))
          exact blk284 p1 q2 q3 q4 q5 q6 b11 (3 : Int32) r13 x14 e15 x17 t18 (((0 : Int32) + (1 : Int32)) + (1 : Int32)) (PFX (3 : Int32) y0 y1 y2 y3) X0 hx hZ hw hby hml hown hlk hret hnm N0 Z0 e0 A13 E13 (Nat.le_of_ble_eq_true rfl) (own_pos3 _ _ _ _ hy) (own_asc3 _ _ _ _ hy) (own_up3_2 _ _ _ _ _ hy (Int.not_lt.mp (fun q_ => c4 (Int64.lt_iff_toInt_lt.mpr q_))) (Int.not_lt.mp (fun q_ => c5 (Int64.lt_iff_toInt_lt.mpr q_))) (Int64.lt_iff_toInt_lt.mp c6))
        · refine Done.step (fun t k => XS.ifNo X0.here hx rfl (hb hby at_253) rfl ((if0 _ _).trans (flt (fun q_ => c6 ((lw_gt _ _).mp q_))).2.2.1) k) ?_
          show Done p e below s _ _ _ (T.setTop (mkF m 256 #[.val (.int p1), .val (.long q2), .second, .val (.long q3), .second, .val (.long q4), .second, .val (.long q5), .second, .val (.long q6), .second, .val (.ref b11), .val (.int (3 : Int32)), .val (.ref r13), .val (.int x14), .val (.long e15), .second, .val (.int x17), .val (.long t18), .second, .val (.int (((0 : Int32) + (1 : Int32)) + (1 : Int32))), .unset] []))
          refine Done.step (fun t k => XS.iload X0.here hx rfl (hb hby at_256) rfl k) ?_
          show Done p e below s _ _ _ (T.setTop (mkF m 258 #[.val (.int p1), .val (.long q2), .second, .val (.long q3), .second, .val (.long q4), .second, .val (.long q5), .second, .val (.long q6), .second, .val (.ref b11), .val (.int (3 : Int32)), .val (.ref r13), .val (.int x14), .val (.long e15), .second, .val (.int x17), .val (.long t18), .second, .val (.int (((0 : Int32) + (1 : Int32)) + (1 : Int32))), .unset] [(.int (((0 : Int32) + (1 : Int32)) + (1 : Int32)))]))
          refine Done.step (fun t k => XS.iconst X0.here hx rfl (hb hby at_258) k) ?_
          show Done p e below s _ _ _ (T.setTop (mkF m 259 #[.val (.int p1), .val (.long q2), .second, .val (.long q3), .second, .val (.long q4), .second, .val (.long q5), .second, .val (.long q6), .second, .val (.ref b11), .val (.int (3 : Int32)), .val (.ref r13), .val (.int x14), .val (.long e15), .second, .val (.int x17), .val (.long t18), .second, .val (.int (((0 : Int32) + (1 : Int32)) + (1 : Int32))), .unset] [(.int (1 : Int32)), (.int (((0 : Int32) + (1 : Int32)) + (1 : Int32)))]))
          refine Done.step (fun t k => XS.iadd X0.here hx rfl (hb hby at_259) rfl k) ?_
          show Done p e below s _ _ _ (T.setTop (mkF m 260 #[.val (.int p1), .val (.long q2), .second, .val (.long q3), .second, .val (.long q4), .second, .val (.long q5), .second, .val (.long q6), .second, .val (.ref b11), .val (.int (3 : Int32)), .val (.ref r13), .val (.int x14), .val (.long e15), .second, .val (.int x17), .val (.long t18), .second, .val (.int (((0 : Int32) + (1 : Int32)) + (1 : Int32))), .unset] [(.int ((((0 : Int32) + (1 : Int32)) + (1 : Int32)) + (1 : Int32)))]))
          refine Done.step (fun t k => XS.istore X0.here hx rfl (hb hby at_260) rfl (l' := #[.val (.int p1), .val (.long q2), .second, .val (.long q3), .second, .val (.long q4), .second, .val (.long q5), .second, .val (.long q6), .second, .val (.ref b11), .val (.int (3 : Int32)), .val (.ref r13), .val (.int x14), .val (.long e15), .second, .val (.int x17), .val (.long t18), .second, .val (.int ((((0 : Int32) + (1 : Int32)) + (1 : Int32)) + (1 : Int32))), .unset]) rfl k) ?_
          show Done p e below s _ _ _ (T.setTop (mkF m 262 #[.val (.int p1), .val (.long q2), .second, .val (.long q3), .second, .val (.long q4), .second, .val (.long q5), .second, .val (.long q6), .second, .val (.ref b11), .val (.int (3 : Int32)), .val (.ref r13), .val (.int x14), .val (.long e15), .second, .val (.int x17), .val (.long t18), .second, .val (.int ((((0 : Int32) + (1 : Int32)) + (1 : Int32)) + (1 : Int32))), .unset] []))
          refine Done.step (fun t k => XS.iload X0.here hx rfl (hb hby at_262) rfl k) ?_
          show Done p e below s _ _ _ (T.setTop (mkF m 264 #[.val (.int p1), .val (.long q2), .second, .val (.long q3), .second, .val (.long q4), .second, .val (.long q5), .second, .val (.long q6), .second, .val (.ref b11), .val (.int (3 : Int32)), .val (.ref r13), .val (.int x14), .val (.long e15), .second, .val (.int x17), .val (.long t18), .second, .val (.int ((((0 : Int32) + (1 : Int32)) + (1 : Int32)) + (1 : Int32))), .unset] [(.int (3 : Int32))]))
          refine Done.step (fun t k => XS.iconst X0.here hx rfl (hb hby at_264) k) ?_
          show Done p e below s _ _ _ (T.setTop (mkF m 265 #[.val (.int p1), .val (.long q2), .second, .val (.long q3), .second, .val (.long q4), .second, .val (.long q5), .second, .val (.long q6), .second, .val (.ref b11), .val (.int (3 : Int32)), .val (.ref r13), .val (.int x14), .val (.long e15), .second, .val (.int x17), .val (.long t18), .second, .val (.int ((((0 : Int32) + (1 : Int32)) + (1 : Int32)) + (1 : Int32))), .unset] [(.int (3 : Int32)), (.int (3 : Int32))]))
          refine Done.step (fun t k => XS.icmpYes X0.here hx rfl (pc0 := 265) (pc' := 284) rfl (hb hby at_265) rfl (flt (by decide)).2.2.2 (by decide) (by decide) k) ?_
          show Done p e below s _ _ _ (T.setTop (mkF m 284 #[.val (.int p1), .val (.long q2), .second, .val (.long q3), .second, .val (.long q4), .second, .val (.long q5), .second, .val (.long q6), .second, .val (.ref b11), .val (.int (3 : Int32)), .val (.ref r13), .val (.int x14), .val (.long e15), .second, .val (.int x17), .val (.long t18), .second, .val (.int ((((0 : Int32) + (1 : Int32)) + (1 : Int32)) + (1 : Int32))), .unset] []))
          exact blk284 p1 q2 q3 q4 q5 q6 b11 (3 : Int32) r13 x14 e15 x17 t18 ((((0 : Int32) + (1 : Int32)) + (1 : Int32)) + (1 : Int32)) (PFX (3 : Int32) y0 y1 y2 y3) X0 hx hZ hw hby hml hown hlk hret hnm N0 Z0 e0 A13 E13 (Nat.le_of_ble_eq_true rfl) (own_pos3 _ _ _ _ hy) (own_asc3 _ _ _ _ hy) (own_up3_3 _ _ _ _ _ hy (Int.not_lt.mp (fun q_ => c4 (Int64.lt_iff_toInt_lt.mpr q_))) (Int.not_lt.mp (fun q_ => c5 (Int64.lt_iff_toInt_lt.mpr q_))) (Int.not_lt.mp (fun q_ => c6 (Int64.lt_iff_toInt_lt.mpr q_))))
  · show Done p e below s _ _ _ (T.setTop (mkF m 194 #[.val (.int p1), .val (.long q2), .second, .val (.long q3), .second, .val (.long q4), .second, .val (.long q5), .second, .val (.long q6), .second, .val (.ref b11), .val (.int (4 : Int32)), .val (.ref r13), .val (.int x14), .val (.long e15), .second, .val (.int x17), .val (.long t18), .second, .unset, .unset] []))
    refine Done.step (fun t k => XS.iconst X0.here hx rfl (hb hby at_194) k) ?_
    show Done p e below s _ _ _ (T.setTop (mkF m 195 #[.val (.int p1), .val (.long q2), .second, .val (.long q3), .second, .val (.long q4), .second, .val (.long q5), .second, .val (.long q6), .second, .val (.ref b11), .val (.int (4 : Int32)), .val (.ref r13), .val (.int x14), .val (.long e15), .second, .val (.int x17), .val (.long t18), .second, .unset, .unset] [(.int (0 : Int32))]))
    refine Done.step (fun t k => XS.istore X0.here hx rfl (hb hby at_195) rfl (l' := #[.val (.int p1), .val (.long q2), .second, .val (.long q3), .second, .val (.long q4), .second, .val (.long q5), .second, .val (.long q6), .second, .val (.ref b11), .val (.int (4 : Int32)), .val (.ref r13), .val (.int x14), .val (.long e15), .second, .val (.int x17), .val (.long t18), .second, .val (.int (0 : Int32)), .unset]) rfl k) ?_
    show Done p e below s _ _ _ (T.setTop (mkF m 197 #[.val (.int p1), .val (.long q2), .second, .val (.long q3), .second, .val (.long q4), .second, .val (.long q5), .second, .val (.long q6), .second, .val (.ref b11), .val (.int (4 : Int32)), .val (.ref r13), .val (.int x14), .val (.long e15), .second, .val (.int x17), .val (.long t18), .second, .val (.int (0 : Int32)), .unset] []))
    refine Done.step (fun t k => XS.iload X0.here hx rfl (hb hby at_197) rfl k) ?_
    show Done p e below s _ _ _ (T.setTop (mkF m 199 #[.val (.int p1), .val (.long q2), .second, .val (.long q3), .second, .val (.long q4), .second, .val (.long q5), .second, .val (.long q6), .second, .val (.ref b11), .val (.int (4 : Int32)), .val (.ref r13), .val (.int x14), .val (.long e15), .second, .val (.int x17), .val (.long t18), .second, .val (.int (0 : Int32)), .unset] [(.int (4 : Int32))]))
    refine Done.step (fun t k => XS.ifNo X0.here hx rfl (hb hby at_199) rfl ((if0 _ _).trans (tlt (by decide)).2.2.2) k) ?_
    show Done p e below s _ _ _ (T.setTop (mkF m 202 #[.val (.int p1), .val (.long q2), .second, .val (.long q3), .second, .val (.long q4), .second, .val (.long q5), .second, .val (.long q6), .second, .val (.ref b11), .val (.int (4 : Int32)), .val (.ref r13), .val (.int x14), .val (.long e15), .second, .val (.int x17), .val (.long t18), .second, .val (.int (0 : Int32)), .unset] []))
    refine Done.step (fun t k => XS.aload X0.here hx rfl (hb hby at_202) rfl rfl k) ?_
    show Done p e below s _ _ _ (T.setTop (mkF m 204 #[.val (.int p1), .val (.long q2), .second, .val (.long q3), .second, .val (.long q4), .second, .val (.long q5), .second, .val (.long q6), .second, .val (.ref b11), .val (.int (4 : Int32)), .val (.ref r13), .val (.int x14), .val (.long e15), .second, .val (.int x17), .val (.long t18), .second, .val (.int (0 : Int32)), .unset] [(.ref b11)]))
    refine Done.step (fun t k => XS.iconst X0.here hx rfl (hb hby at_204) k) ?_
    show Done p e below s _ _ _ (T.setTop (mkF m 205 #[.val (.int p1), .val (.long q2), .second, .val (.long q3), .second, .val (.long q4), .second, .val (.long q5), .second, .val (.long q6), .second, .val (.ref b11), .val (.int (4 : Int32)), .val (.ref r13), .val (.int x14), .val (.long e15), .second, .val (.int x17), .val (.long t18), .second, .val (.int (0 : Int32)), .unset] [(.int (0 : Int32)), (.ref b11)]))
    refine Done.step (ldJ X0 hx hZ e0 A11 (j := (0 : Int32)) (x := (.long y0)) (by decide) rfl (g := (mkF m 205 #[.val (.int p1), .val (.long q2), .second, .val (.long q3), .second, .val (.long q4), .second, .val (.long q5), .second, .val (.long q6), .second, .val (.ref b11), .val (.int (4 : Int32)), .val (.ref r13), .val (.int x14), .val (.long e15), .second, .val (.int x17), .val (.long t18), .second, .val (.int (0 : Int32)), .unset] [(.int (0 : Int32)), (.ref b11)])) rfl rfl (hb hby at_205)) ?_
    show Done p e below s _ _ _ (T.setTop (mkF m 206 #[.val (.int p1), .val (.long q2), .second, .val (.long q3), .second, .val (.long q4), .second, .val (.long q5), .second, .val (.long q6), .second, .val (.ref b11), .val (.int (4 : Int32)), .val (.ref r13), .val (.int x14), .val (.long e15), .second, .val (.int x17), .val (.long t18), .second, .val (.int (0 : Int32)), .unset] [(.long y0)]))
    refine Done.step (fun t k => XS.lload X0.here hx rfl (hb hby at_206) rfl k) ?_
    show Done p e below s _ _ _ (T.setTop (mkF m 208 #[.val (.int p1), .val (.long q2), .second, .val (.long q3), .second, .val (.long q4), .second, .val (.long q5), .second, .val (.long q6), .second, .val (.ref b11), .val (.int (4 : Int32)), .val (.ref r13), .val (.int x14), .val (.long e15), .second, .val (.int x17), .val (.long t18), .second, .val (.int (0 : Int32)), .unset] [(.long t18), (.long y0)]))
    refine Done.step (fun t k => XS.lcmp X0.here hx rfl (hb hby at_208) rfl k) ?_
    show Done p e below s _ _ _ (T.setTop (mkF m 209 #[.val (.int p1), .val (.long q2), .second, .val (.long q3), .second, .val (.long q4), .second, .val (.long q5), .second, .val (.long q6), .second, .val (.ref b11), .val (.int (4 : Int32)), .val (.ref r13), .val (.int x14), .val (.long e15), .second, .val (.int x17), .val (.long t18), .second, .val (.int (0 : Int32)), .unset] [(.int (lcmpW y0 t18))]))
    by_cases c7 : t18 < y0
    · refine Done.step (fun t k => XS.ifYes X0.here hx rfl (pc0 := 209) (pc' := 218) rfl (hb hby at_209) rfl ((if0 _ _).trans (tlt ((lw_gt _ _).mpr c7)).2.2.1) (by decide) (by decide) k) ?_
      show Done p e below s _ _ _ (T.setTop (mkF m 218 #[.val (.int p1), .val (.long q2), .second, .val (.long q3), .second, .val (.long q4), .second, .val (.long q5), .second, .val (.long q6), .second, .val (.ref b11), .val (.int (4 : Int32)), .val (.ref r13), .val (.int x14), .val (.long e15), .second, .val (.int x17), .val (.long t18), .second, .val (.int (0 : Int32)), .unset] []))
      refine Done.step (fun t k => XS.iload X0.here hx rfl (hb hby at_218) rfl k) ?_
      show Done p e below s _ _ _ (T.setTop (mkF m 220 #[.val (.int p1), .val (.long q2), .second, .val (.long q3), .second, .val (.long q4), .second, .val (.long q5), .second, .val (.long q6), .second, .val (.ref b11), .val (.int (4 : Int32)), .val (.ref r13), .val (.int x14), .val (.long e15), .second, .val (.int x17), .val (.long t18), .second, .val (.int (0 : Int32)), .unset] [(.int (4 : Int32))]))
      refine Done.step (fun t k => XS.iconst X0.here hx rfl (hb hby at_220) k) ?_
      show Done p e below s _ _ _ (T.setTop (mkF m 221 #[.val (.int p1), .val (.long q2), .second, .val (.long q3), .second, .val (.long q4), .second, .val (.long q5), .second, .val (.long q6), .second, .val (.ref b11), .val (.int (4 : Int32)), .val (.ref r13), .val (.int x14), .val (.long e15), .second, .val (.int x17), .val (.long t18), .second, .val (.int (0 : Int32)), .unset] [(.int (1 : Int32)), (.int (4 : Int32))]))
      refine Done.step (fun t k => XS.icmpNo X0.here hx rfl (hb hby at_221) rfl (tlt (by decide)).2.2.2 k) ?_
      show Done p e below s _ _ _ (T.setTop (mkF m 224 #[.val (.int p1), .val (.long q2), .second, .val (.long q3), .second, .val (.long q4), .second, .val (.long q5), .second, .val (.long q6), .second, .val (.ref b11), .val (.int (4 : Int32)), .val (.ref r13), .val (.int x14), .val (.long e15), .second, .val (.int x17), .val (.long t18), .second, .val (.int (0 : Int32)), .unset] []))
      refine Done.step (fun t k => XS.aload X0.here hx rfl (hb hby at_224) rfl rfl k) ?_
      show Done p e below s _ _ _ (T.setTop (mkF m 226 #[.val (.int p1), .val (.long q2), .second, .val (.long q3), .second, .val (.long q4), .second, .val (.long q5), .second, .val (.long q6), .second, .val (.ref b11), .val (.int (4 : Int32)), .val (.ref r13), .val (.int x14), .val (.long e15), .second, .val (.int x17), .val (.long t18), .second, .val (.int (0 : Int32)), .unset] [(.ref b11)]))
      refine Done.step (fun t k => XS.iconst X0.here hx rfl (hb hby at_226) k) ?_
      show Done p e below s _ _ _ (T.setTop (mkF m 227 #[.val (.int p1), .val (.long q2), .second, .val (.long q3), .second, .val (.long q4), .second, .val (.long q5), .second, .val (.long q6), .second, .val (.ref b11), .val (.int (4 : Int32)), .val (.ref r13), .val (.int x14), .val (.long e15), .second, .val (.int x17), .val (.long t18), .second, .val (.int (0 : Int32)), .unset] [(.int (1 : Int32)), (.ref b11)]))
      refine Done.step (ldJ X0 hx hZ e0 A11 (j := (1 : Int32)) (x := (.long y1)) (by decide) rfl (g := (mkF m 227 #[.val (.int p1), .val (.long q2), .second, .val (.long q3), .second, .val (.long q4), .second, .val (.long q5), .second, .val (.long q6), .second, .val (.ref b11), .val (.int (4 : Int32)), .val (.ref r13), .val (.int x14), .val (.long e15), .second, .val (.int x17), .val (.long t18), .second, .val (.int (0 : Int32)), .unset] [(.int (1 : Int32)), (.ref b11)])) rfl rfl (hb hby at_227)) ?_
      show Done p e below s _ _ _ (T.setTop (mkF m 228 #[.val (.int p1), .val (.long q2), .second, .val (.long q3), .second, .val (.long q4), .second, .val (.long q5), .second, .val (.long q6), .second, .val (.ref b11), .val (.int (4 : Int32)), .val (.ref r13), .val (.int x14), .val (.long e15), .second, .val (.int x17), .val (.long t18), .second, .val (.int (0 : Int32)), .unset] [(.long y1)]))
      refine Done.step (fun t k => XS.lload X0.here hx rfl (hb hby at_228) rfl k) ?_
      show Done p e below s _ _ _ (T.setTop (mkF m 230 #[.val (.int p1), .val (.long q2), .second, .val (.long q3), .second, .val (.long q4), .second, .val (.long q5), .second, .val (.long q6), .second, .val (.ref b11), .val (.int (4 : Int32)), .val (.ref r13), .val (.int x14), .val (.long e15), .second, .val (.int x17), .val (.long t18), .second, .val (.int (0 : Int32)), .unset] [(.long t18), (.long y1)]))
      refine Done.step (fun t k => XS.lcmp X0.here hx rfl (hb hby at_230) rfl k) ?_
      show Done p e below s _ _ _ (T.setTop (mkF m 231 #[.val (.int p1), .val (.long q2), .second, .val (.long q3), .second, .val (.long q4), .second, .val (.long q5), .second, .val (.long q6), .second, .val (.ref b11), .val (.int (4 : Int32)), .val (.ref r13), .val (.int x14), .val (.long e15), .second, .val (.int x17), .val (.long t18), .second, .val (.int (0 : Int32)), .unset] [(.int (lcmpW y1 t18))]))
      refine Done.step (fun t k => XS.ifYes X0.here hx rfl (pc0 := 231) (pc' := 240) rfl (hb hby at_231) rfl ((if0 _ _).trans (tlt ((lw_gt _ _).mpr (show t18 < y1 from (by rw [Int64.lt_iff_toInt_lt]; have := Int64.lt_iff_toInt_lt.mp c7; omega)))).2.2.1) (by decide) (by decide) k) ?_
      show Done p e below s _ _ _ (T.setTop (mkF m 240 #[.val (.int p1), .val (.long q2), .second, .val (.long q3), .second, .val (.long q4), .second, .val (.long q5), .second, .val (.long q6), .second, .val (.ref b11), .val (.int (4 : Int32)), .val (.ref r13), .val (.int x14), .val (.long e15), .second, .val (.int x17), .val (.long t18), .second, .val (.int (0 : Int32)), .unset] []))
      refine Done.step (fun t k => XS.iload X0.here hx rfl (hb hby at_240) rfl k) ?_
      show Done p e below s _ _ _ (T.setTop (mkF m 242 #[.val (.int p1), .val (.long q2), .second, .val (.long q3), .second, .val (.long q4), .second, .val (.long q5), .second, .val (.long q6), .second, .val (.ref b11), .val (.int (4 : Int32)), .val (.ref r13), .val (.int x14), .val (.long e15), .second, .val (.int x17), .val (.long t18), .second, .val (.int (0 : Int32)), .unset] [(.int (4 : Int32))]))
      refine Done.step (fun t k => XS.iconst X0.here hx rfl (hb hby at_242) k) ?_
      show Done p e below s _ _ _ (T.setTop (mkF m 243 #[.val (.int p1), .val (.long q2), .second, .val (.long q3), .second, .val (.long q4), .second, .val (.long q5), .second, .val (.long q6), .second, .val (.ref b11), .val (.int (4 : Int32)), .val (.ref r13), .val (.int x14), .val (.long e15), .second, .val (.int x17), .val (.long t18), .second, .val (.int (0 : Int32)), .unset] [(.int (2 : Int32)), (.int (4 : Int32))]))
      refine Done.step (fun t k => XS.icmpNo X0.here hx rfl (hb hby at_243) rfl (tlt (by decide)).2.2.2 k) ?_
      show Done p e below s _ _ _ (T.setTop (mkF m 246 #[.val (.int p1), .val (.long q2), .second, .val (.long q3), .second, .val (.long q4), .second, .val (.long q5), .second, .val (.long q6), .second, .val (.ref b11), .val (.int (4 : Int32)), .val (.ref r13), .val (.int x14), .val (.long e15), .second, .val (.int x17), .val (.long t18), .second, .val (.int (0 : Int32)), .unset] []))
      refine Done.step (fun t k => XS.aload X0.here hx rfl (hb hby at_246) rfl rfl k) ?_
      show Done p e below s _ _ _ (T.setTop (mkF m 248 #[.val (.int p1), .val (.long q2), .second, .val (.long q3), .second, .val (.long q4), .second, .val (.long q5), .second, .val (.long q6), .second, .val (.ref b11), .val (.int (4 : Int32)), .val (.ref r13), .val (.int x14), .val (.long e15), .second, .val (.int x17), .val (.long t18), .second, .val (.int (0 : Int32)), .unset] [(.ref b11)]))
      refine Done.step (fun t k => XS.iconst X0.here hx rfl (hb hby at_248) k) ?_
      show Done p e below s _ _ _ (T.setTop (mkF m 249 #[.val (.int p1), .val (.long q2), .second, .val (.long q3), .second, .val (.long q4), .second, .val (.long q5), .second, .val (.long q6), .second, .val (.ref b11), .val (.int (4 : Int32)), .val (.ref r13), .val (.int x14), .val (.long e15), .second, .val (.int x17), .val (.long t18), .second, .val (.int (0 : Int32)), .unset] [(.int (2 : Int32)), (.ref b11)]))
      refine Done.step (ldJ X0 hx hZ e0 A11 (j := (2 : Int32)) (x := (.long y2)) (by decide) rfl (g := (mkF m 249 #[.val (.int p1), .val (.long q2), .second, .val (.long q3), .second, .val (.long q4), .second, .val (.long q5), .second, .val (.long q6), .second, .val (.ref b11), .val (.int (4 : Int32)), .val (.ref r13), .val (.int x14), .val (.long e15), .second, .val (.int x17), .val (.long t18), .second, .val (.int (0 : Int32)), .unset] [(.int (2 : Int32)), (.ref b11)])) rfl rfl (hb hby at_249)) ?_
      show Done p e below s _ _ _ (T.setTop (mkF m 250 #[.val (.int p1), .val (.long q2), .second, .val (.long q3), .second, .val (.long q4), .second, .val (.long q5), .second, .val (.long q6), .second, .val (.ref b11), .val (.int (4 : Int32)), .val (.ref r13), .val (.int x14), .val (.long e15), .second, .val (.int x17), .val (.long t18), .second, .val (.int (0 : Int32)), .unset] [(.long y2)]))
      refine Done.step (fun t k => XS.lload X0.here hx rfl (hb hby at_250) rfl k) ?_
      show Done p e below s _ _ _ (T.setTop (mkF m 252 #[.val (.int p1), .val (.long q2), .second, .val (.long q3), .second, .val (.long q4), .second, .val (.long q5), .second, .val (.long q6), .second, .val (.ref b11), .val (.int (4 : Int32)), .val (.ref r13), .val (.int x14), .val (.long e15), .second, .val (.int x17), .val (.long t18), .second, .val (.int (0 : Int32)), .unset] [(.long t18), (.long y2)]))
      refine Done.step (fun t k => XS.lcmp X0.here hx rfl (hb hby at_252) rfl k) ?_
      show Done p e below s _ _ _ (T.setTop (mkF m 253 #[.val (.int p1), .val (.long q2), .second, .val (.long q3), .second, .val (.long q4), .second, .val (.long q5), .second, .val (.long q6), .second, .val (.ref b11), .val (.int (4 : Int32)), .val (.ref r13), .val (.int x14), .val (.long e15), .second, .val (.int x17), .val (.long t18), .second, .val (.int (0 : Int32)), .unset] [(.int (lcmpW y2 t18))]))
      refine Done.step (fun t k => XS.ifYes X0.here hx rfl (pc0 := 253) (pc' := 262) rfl (hb hby at_253) rfl ((if0 _ _).trans (tlt ((lw_gt _ _).mpr (show t18 < y2 from (by rw [Int64.lt_iff_toInt_lt]; have := Int64.lt_iff_toInt_lt.mp c7; omega)))).2.2.1) (by decide) (by decide) k) ?_
      show Done p e below s _ _ _ (T.setTop (mkF m 262 #[.val (.int p1), .val (.long q2), .second, .val (.long q3), .second, .val (.long q4), .second, .val (.long q5), .second, .val (.long q6), .second, .val (.ref b11), .val (.int (4 : Int32)), .val (.ref r13), .val (.int x14), .val (.long e15), .second, .val (.int x17), .val (.long t18), .second, .val (.int (0 : Int32)), .unset] []))
      refine Done.step (fun t k => XS.iload X0.here hx rfl (hb hby at_262) rfl k) ?_
      show Done p e below s _ _ _ (T.setTop (mkF m 264 #[.val (.int p1), .val (.long q2), .second, .val (.long q3), .second, .val (.long q4), .second, .val (.long q5), .second, .val (.long q6), .second, .val (.ref b11), .val (.int (4 : Int32)), .val (.ref r13), .val (.int x14), .val (.long e15), .second, .val (.int x17), .val (.long t18), .second, .val (.int (0 : Int32)), .unset] [(.int (4 : Int32))]))
      refine Done.step (fun t k => XS.iconst X0.here hx rfl (hb hby at_264) k) ?_
      show Done p e below s _ _ _ (T.setTop (mkF m 265 #[.val (.int p1), .val (.long q2), .second, .val (.long q3), .second, .val (.long q4), .second, .val (.long q5), .second, .val (.long q6), .second, .val (.ref b11), .val (.int (4 : Int32)), .val (.ref r13), .val (.int x14), .val (.long e15), .second, .val (.int x17), .val (.long t18), .second, .val (.int (0 : Int32)), .unset] [(.int (3 : Int32)), (.int (4 : Int32))]))
      refine Done.step (fun t k => XS.icmpNo X0.here hx rfl (hb hby at_265) rfl (tlt (by decide)).2.2.2 k) ?_
      show Done p e below s _ _ _ (T.setTop (mkF m 268 #[.val (.int p1), .val (.long q2), .second, .val (.long q3), .second, .val (.long q4), .second, .val (.long q5), .second, .val (.long q6), .second, .val (.ref b11), .val (.int (4 : Int32)), .val (.ref r13), .val (.int x14), .val (.long e15), .second, .val (.int x17), .val (.long t18), .second, .val (.int (0 : Int32)), .unset] []))
      refine Done.step (fun t k => XS.aload X0.here hx rfl (hb hby at_268) rfl rfl k) ?_
      show Done p e below s _ _ _ (T.setTop (mkF m 270 #[.val (.int p1), .val (.long q2), .second, .val (.long q3), .second, .val (.long q4), .second, .val (.long q5), .second, .val (.long q6), .second, .val (.ref b11), .val (.int (4 : Int32)), .val (.ref r13), .val (.int x14), .val (.long e15), .second, .val (.int x17), .val (.long t18), .second, .val (.int (0 : Int32)), .unset] [(.ref b11)]))
      refine Done.step (fun t k => XS.iconst X0.here hx rfl (hb hby at_270) k) ?_
      show Done p e below s _ _ _ (T.setTop (mkF m 271 #[.val (.int p1), .val (.long q2), .second, .val (.long q3), .second, .val (.long q4), .second, .val (.long q5), .second, .val (.long q6), .second, .val (.ref b11), .val (.int (4 : Int32)), .val (.ref r13), .val (.int x14), .val (.long e15), .second, .val (.int x17), .val (.long t18), .second, .val (.int (0 : Int32)), .unset] [(.int (3 : Int32)), (.ref b11)]))
      refine Done.step (ldJ X0 hx hZ e0 A11 (j := (3 : Int32)) (x := (.long y3)) (by decide) rfl (g := (mkF m 271 #[.val (.int p1), .val (.long q2), .second, .val (.long q3), .second, .val (.long q4), .second, .val (.long q5), .second, .val (.long q6), .second, .val (.ref b11), .val (.int (4 : Int32)), .val (.ref r13), .val (.int x14), .val (.long e15), .second, .val (.int x17), .val (.long t18), .second, .val (.int (0 : Int32)), .unset] [(.int (3 : Int32)), (.ref b11)])) rfl rfl (hb hby at_271)) ?_
      show Done p e below s _ _ _ (T.setTop (mkF m 272 #[.val (.int p1), .val (.long q2), .second, .val (.long q3), .second, .val (.long q4), .second, .val (.long q5), .second, .val (.long q6), .second, .val (.ref b11), .val (.int (4 : Int32)), .val (.ref r13), .val (.int x14), .val (.long e15), .second, .val (.int x17), .val (.long t18), .second, .val (.int (0 : Int32)), .unset] [(.long y3)]))
      refine Done.step (fun t k => XS.lload X0.here hx rfl (hb hby at_272) rfl k) ?_
      show Done p e below s _ _ _ (T.setTop (mkF m 274 #[.val (.int p1), .val (.long q2), .second, .val (.long q3), .second, .val (.long q4), .second, .val (.long q5), .second, .val (.long q6), .second, .val (.ref b11), .val (.int (4 : Int32)), .val (.ref r13), .val (.int x14), .val (.long e15), .second, .val (.int x17), .val (.long t18), .second, .val (.int (0 : Int32)), .unset] [(.long t18), (.long y3)]))
      refine Done.step (fun t k => XS.lcmp X0.here hx rfl (hb hby at_274) rfl k) ?_
      show Done p e below s _ _ _ (T.setTop (mkF m 275 #[.val (.int p1), .val (.long q2), .second, .val (.long q3), .second, .val (.long q4), .second, .val (.long q5), .second, .val (.long q6), .second, .val (.ref b11), .val (.int (4 : Int32)), .val (.ref r13), .val (.int x14), .val (.long e15), .second, .val (.int x17), .val (.long t18), .second, .val (.int (0 : Int32)), .unset] [(.int (lcmpW y3 t18))]))
      refine Done.step (fun t k => XS.ifYes X0.here hx rfl (pc0 := 275) (pc' := 284) rfl (hb hby at_275) rfl ((if0 _ _).trans (tlt ((lw_gt _ _).mpr (show t18 < y3 from (by rw [Int64.lt_iff_toInt_lt]; have := Int64.lt_iff_toInt_lt.mp c7; omega)))).2.2.1) (by decide) (by decide) k) ?_
      show Done p e below s _ _ _ (T.setTop (mkF m 284 #[.val (.int p1), .val (.long q2), .second, .val (.long q3), .second, .val (.long q4), .second, .val (.long q5), .second, .val (.long q6), .second, .val (.ref b11), .val (.int (4 : Int32)), .val (.ref r13), .val (.int x14), .val (.long e15), .second, .val (.int x17), .val (.long t18), .second, .val (.int (0 : Int32)), .unset] []))
      exact blk284 p1 q2 q3 q4 q5 q6 b11 (4 : Int32) r13 x14 e15 x17 t18 (0 : Int32) (PFX (4 : Int32) y0 y1 y2 y3) X0 hx hZ hw hby hml hown hlk hret hnm N0 Z0 e0 A13 E13 (Nat.le_of_ble_eq_true rfl) (own_pos4 _ _ _ _ hy) (own_asc4 _ _ _ _ hy) (own_up4_0 _ _ _ _ _ hy (Int64.lt_iff_toInt_lt.mp c7))
    · refine Done.step (fun t k => XS.ifNo X0.here hx rfl (hb hby at_209) rfl ((if0 _ _).trans (flt (fun q_ => c7 ((lw_gt _ _).mp q_))).2.2.1) k) ?_
      show Done p e below s _ _ _ (T.setTop (mkF m 212 #[.val (.int p1), .val (.long q2), .second, .val (.long q3), .second, .val (.long q4), .second, .val (.long q5), .second, .val (.long q6), .second, .val (.ref b11), .val (.int (4 : Int32)), .val (.ref r13), .val (.int x14), .val (.long e15), .second, .val (.int x17), .val (.long t18), .second, .val (.int (0 : Int32)), .unset] []))
      refine Done.step (fun t k => XS.iload X0.here hx rfl (hb hby at_212) rfl k) ?_
      show Done p e below s _ _ _ (T.setTop (mkF m 214 #[.val (.int p1), .val (.long q2), .second, .val (.long q3), .second, .val (.long q4), .second, .val (.long q5), .second, .val (.long q6), .second, .val (.ref b11), .val (.int (4 : Int32)), .val (.ref r13), .val (.int x14), .val (.long e15), .second, .val (.int x17), .val (.long t18), .second, .val (.int (0 : Int32)), .unset] [(.int (0 : Int32))]))
      refine Done.step (fun t k => XS.iconst X0.here hx rfl (hb hby at_214) k) ?_
      show Done p e below s _ _ _ (T.setTop (mkF m 215 #[.val (.int p1), .val (.long q2), .second, .val (.long q3), .second, .val (.long q4), .second, .val (.long q5), .second, .val (.long q6), .second, .val (.ref b11), .val (.int (4 : Int32)), .val (.ref r13), .val (.int x14), .val (.long e15), .second, .val (.int x17), .val (.long t18), .second, .val (.int (0 : Int32)), .unset] [(.int (1 : Int32)), (.int (0 : Int32))]))
      refine Done.step (fun t k => XS.iadd X0.here hx rfl (hb hby at_215) rfl k) ?_
      show Done p e below s _ _ _ (T.setTop (mkF m 216 #[.val (.int p1), .val (.long q2), .second, .val (.long q3), .second, .val (.long q4), .second, .val (.long q5), .second, .val (.long q6), .second, .val (.ref b11), .val (.int (4 : Int32)), .val (.ref r13), .val (.int x14), .val (.long e15), .second, .val (.int x17), .val (.long t18), .second, .val (.int (0 : Int32)), .unset] [(.int ((0 : Int32) + (1 : Int32)))]))
      refine Done.step (fun t k => XS.istore X0.here hx rfl (hb hby at_216) rfl (l' := #[.val (.int p1), .val (.long q2), .second, .val (.long q3), .second, .val (.long q4), .second, .val (.long q5), .second, .val (.long q6), .second, .val (.ref b11), .val (.int (4 : Int32)), .val (.ref r13), .val (.int x14), .val (.long e15), .second, .val (.int x17), .val (.long t18), .second, .val (.int ((0 : Int32) + (1 : Int32))), .unset]) rfl k) ?_
      show Done p e below s _ _ _ (T.setTop (mkF m 218 #[.val (.int p1), .val (.long q2), .second, .val (.long q3), .second, .val (.long q4), .second, .val (.long q5), .second, .val (.long q6), .second, .val (.ref b11), .val (.int (4 : Int32)), .val (.ref r13), .val (.int x14), .val (.long e15), .second, .val (.int x17), .val (.long t18), .second, .val (.int ((0 : Int32) + (1 : Int32))), .unset] []))
      refine Done.step (fun t k => XS.iload X0.here hx rfl (hb hby at_218) rfl k) ?_
      show Done p e below s _ _ _ (T.setTop (mkF m 220 #[.val (.int p1), .val (.long q2), .second, .val (.long q3), .second, .val (.long q4), .second, .val (.long q5), .second, .val (.long q6), .second, .val (.ref b11), .val (.int (4 : Int32)), .val (.ref r13), .val (.int x14), .val (.long e15), .second, .val (.int x17), .val (.long t18), .second, .val (.int ((0 : Int32) + (1 : Int32))), .unset] [(.int (4 : Int32))]))
      refine Done.step (fun t k => XS.iconst X0.here hx rfl (hb hby at_220) k) ?_
      show Done p e below s _ _ _ (T.setTop (mkF m 221 #[.val (.int p1), .val (.long q2), .second, .val (.long q3), .second, .val (.long q4), .second, .val (.long q5), .second, .val (.long q6), .second, .val (.ref b11), .val (.int (4 : Int32)), .val (.ref r13), .val (.int x14), .val (.long e15), .second, .val (.int x17), .val (.long t18), .second, .val (.int ((0 : Int32) + (1 : Int32))), .unset] [(.int (1 : Int32)), (.int (4 : Int32))]))
      refine Done.step (fun t k => XS.icmpNo X0.here hx rfl (hb hby at_221) rfl (tlt (by decide)).2.2.2 k) ?_
      show Done p e below s _ _ _ (T.setTop (mkF m 224 #[.val (.int p1), .val (.long q2), .second, .val (.long q3), .second, .val (.long q4), .second, .val (.long q5), .second, .val (.long q6), .second, .val (.ref b11), .val (.int (4 : Int32)), .val (.ref r13), .val (.int x14), .val (.long e15), .second, .val (.int x17), .val (.long t18), .second, .val (.int ((0 : Int32) + (1 : Int32))), .unset] []))
      refine Done.step (fun t k => XS.aload X0.here hx rfl (hb hby at_224) rfl rfl k) ?_
      show Done p e below s _ _ _ (T.setTop (mkF m 226 #[.val (.int p1), .val (.long q2), .second, .val (.long q3), .second, .val (.long q4), .second, .val (.long q5), .second, .val (.long q6), .second, .val (.ref b11), .val (.int (4 : Int32)), .val (.ref r13), .val (.int x14), .val (.long e15), .second, .val (.int x17), .val (.long t18), .second, .val (.int ((0 : Int32) + (1 : Int32))), .unset] [(.ref b11)]))
      refine Done.step (fun t k => XS.iconst X0.here hx rfl (hb hby at_226) k) ?_
      show Done p e below s _ _ _ (T.setTop (mkF m 227 #[.val (.int p1), .val (.long q2), .second, .val (.long q3), .second, .val (.long q4), .second, .val (.long q5), .second, .val (.long q6), .second, .val (.ref b11), .val (.int (4 : Int32)), .val (.ref r13), .val (.int x14), .val (.long e15), .second, .val (.int x17), .val (.long t18), .second, .val (.int ((0 : Int32) + (1 : Int32))), .unset] [(.int (1 : Int32)), (.ref b11)]))
      refine Done.step (ldJ X0 hx hZ e0 A11 (j := (1 : Int32)) (x := (.long y1)) (by decide) rfl (g := (mkF m 227 #[.val (.int p1), .val (.long q2), .second, .val (.long q3), .second, .val (.long q4), .second, .val (.long q5), .second, .val (.long q6), .second, .val (.ref b11), .val (.int (4 : Int32)), .val (.ref r13), .val (.int x14), .val (.long e15), .second, .val (.int x17), .val (.long t18), .second, .val (.int ((0 : Int32) + (1 : Int32))), .unset] [(.int (1 : Int32)), (.ref b11)])) rfl rfl (hb hby at_227)) ?_
      show Done p e below s _ _ _ (T.setTop (mkF m 228 #[.val (.int p1), .val (.long q2), .second, .val (.long q3), .second, .val (.long q4), .second, .val (.long q5), .second, .val (.long q6), .second, .val (.ref b11), .val (.int (4 : Int32)), .val (.ref r13), .val (.int x14), .val (.long e15), .second, .val (.int x17), .val (.long t18), .second, .val (.int ((0 : Int32) + (1 : Int32))), .unset] [(.long y1)]))
      refine Done.step (fun t k => XS.lload X0.here hx rfl (hb hby at_228) rfl k) ?_
      show Done p e below s _ _ _ (T.setTop (mkF m 230 #[.val (.int p1), .val (.long q2), .second, .val (.long q3), .second, .val (.long q4), .second, .val (.long q5), .second, .val (.long q6), .second, .val (.ref b11), .val (.int (4 : Int32)), .val (.ref r13), .val (.int x14), .val (.long e15), .second, .val (.int x17), .val (.long t18), .second, .val (.int ((0 : Int32) + (1 : Int32))), .unset] [(.long t18), (.long y1)]))
      refine Done.step (fun t k => XS.lcmp X0.here hx rfl (hb hby at_230) rfl k) ?_
      show Done p e below s _ _ _ (T.setTop (mkF m 231 #[.val (.int p1), .val (.long q2), .second, .val (.long q3), .second, .val (.long q4), .second, .val (.long q5), .second, .val (.long q6), .second, .val (.ref b11), .val (.int (4 : Int32)), .val (.ref r13), .val (.int x14), .val (.long e15), .second, .val (.int x17), .val (.long t18), .second, .val (.int ((0 : Int32) + (1 : Int32))), .unset] [(.int (lcmpW y1 t18))]))
      by_cases c8 : t18 < y1
      · refine Done.step (fun t k => XS.ifYes X0.here hx rfl (pc0 := 231) (pc' := 240) rfl (hb hby at_231) rfl ((if0 _ _).trans (tlt ((lw_gt _ _).mpr c8)).2.2.1) (by decide) (by decide) k) ?_
        show Done p e below s _ _ _ (T.setTop (mkF m 240 #[.val (.int p1), .val (.long q2), .second, .val (.long q3), .second, .val (.long q4), .second, .val (.long q5), .second, .val (.long q6), .second, .val (.ref b11), .val (.int (4 : Int32)), .val (.ref r13), .val (.int x14), .val (.long e15), .second, .val (.int x17), .val (.long t18), .second, .val (.int ((0 : Int32) + (1 : Int32))), .unset] []))
        refine Done.step (fun t k => XS.iload X0.here hx rfl (hb hby at_240) rfl k) ?_
        show Done p e below s _ _ _ (T.setTop (mkF m 242 #[.val (.int p1), .val (.long q2), .second, .val (.long q3), .second, .val (.long q4), .second, .val (.long q5), .second, .val (.long q6), .second, .val (.ref b11), .val (.int (4 : Int32)), .val (.ref r13), .val (.int x14), .val (.long e15), .second, .val (.int x17), .val (.long t18), .second, .val (.int ((0 : Int32) + (1 : Int32))), .unset] [(.int (4 : Int32))]))
        refine Done.step (fun t k => XS.iconst X0.here hx rfl (hb hby at_242) k) ?_
        show Done p e below s _ _ _ (T.setTop (mkF m 243 #[.val (.int p1), .val (.long q2), .second, .val (.long q3), .second, .val (.long q4), .second, .val (.long q5), .second, .val (.long q6), .second, .val (.ref b11), .val (.int (4 : Int32)), .val (.ref r13), .val (.int x14), .val (.long e15), .second, .val (.int x17), .val (.long t18), .second, .val (.int ((0 : Int32) + (1 : Int32))), .unset] [(.int (2 : Int32)), (.int (4 : Int32))]))
        refine Done.step (fun t k => XS.icmpNo X0.here hx rfl (hb hby at_243) rfl (tlt (by decide)).2.2.2 k) ?_
        show Done p e below s _ _ _ (T.setTop (mkF m 246 #[.val (.int p1), .val (.long q2), .second, .val (.long q3), .second, .val (.long q4), .second, .val (.long q5), .second, .val (.long q6), .second, .val (.ref b11), .val (.int (4 : Int32)), .val (.ref r13), .val (.int x14), .val (.long e15), .second, .val (.int x17), .val (.long t18), .second, .val (.int ((0 : Int32) + (1 : Int32))), .unset] []))
        refine Done.step (fun t k => XS.aload X0.here hx rfl (hb hby at_246) rfl rfl k) ?_
        show Done p e below s _ _ _ (T.setTop (mkF m 248 #[.val (.int p1), .val (.long q2), .second, .val (.long q3), .second, .val (.long q4), .second, .val (.long q5), .second, .val (.long q6), .second, .val (.ref b11), .val (.int (4 : Int32)), .val (.ref r13), .val (.int x14), .val (.long e15), .second, .val (.int x17), .val (.long t18), .second, .val (.int ((0 : Int32) + (1 : Int32))), .unset] [(.ref b11)]))
        refine Done.step (fun t k => XS.iconst X0.here hx rfl (hb hby at_248) k) ?_
        show Done p e below s _ _ _ (T.setTop (mkF m 249 #[.val (.int p1), .val (.long q2), .second, .val (.long q3), .second, .val (.long q4), .second, .val (.long q5), .second, .val (.long q6), .second, .val (.ref b11), .val (.int (4 : Int32)), .val (.ref r13), .val (.int x14), .val (.long e15), .second, .val (.int x17), .val (.long t18), .second, .val (.int ((0 : Int32) + (1 : Int32))), .unset] [(.int (2 : Int32)), (.ref b11)]))
        refine Done.step (ldJ X0 hx hZ e0 A11 (j := (2 : Int32)) (x := (.long y2)) (by decide) rfl (g := (mkF m 249 #[.val (.int p1), .val (.long q2), .second, .val (.long q3), .second, .val (.long q4), .second, .val (.long q5), .second, .val (.long q6), .second, .val (.ref b11), .val (.int (4 : Int32)), .val (.ref r13), .val (.int x14), .val (.long e15), .second, .val (.int x17), .val (.long t18), .second, .val (.int ((0 : Int32) + (1 : Int32))), .unset] [(.int (2 : Int32)), (.ref b11)])) rfl rfl (hb hby at_249)) ?_
        show Done p e below s _ _ _ (T.setTop (mkF m 250 #[.val (.int p1), .val (.long q2), .second, .val (.long q3), .second, .val (.long q4), .second, .val (.long q5), .second, .val (.long q6), .second, .val (.ref b11), .val (.int (4 : Int32)), .val (.ref r13), .val (.int x14), .val (.long e15), .second, .val (.int x17), .val (.long t18), .second, .val (.int ((0 : Int32) + (1 : Int32))), .unset] [(.long y2)]))
        refine Done.step (fun t k => XS.lload X0.here hx rfl (hb hby at_250) rfl k) ?_
        show Done p e below s _ _ _ (T.setTop (mkF m 252 #[.val (.int p1), .val (.long q2), .second, .val (.long q3), .second, .val (.long q4), .second, .val (.long q5), .second, .val (.long q6), .second, .val (.ref b11), .val (.int (4 : Int32)), .val (.ref r13), .val (.int x14), .val (.long e15), .second, .val (.int x17), .val (.long t18), .second, .val (.int ((0 : Int32) + (1 : Int32))), .unset] [(.long t18), (.long y2)]))
        refine Done.step (fun t k => XS.lcmp X0.here hx rfl (hb hby at_252) rfl k) ?_
        show Done p e below s _ _ _ (T.setTop (mkF m 253 #[.val (.int p1), .val (.long q2), .second, .val (.long q3), .second, .val (.long q4), .second, .val (.long q5), .second, .val (.long q6), .second, .val (.ref b11), .val (.int (4 : Int32)), .val (.ref r13), .val (.int x14), .val (.long e15), .second, .val (.int x17), .val (.long t18), .second, .val (.int ((0 : Int32) + (1 : Int32))), .unset] [(.int (lcmpW y2 t18))]))
        refine Done.step (fun t k => XS.ifYes X0.here hx rfl (pc0 := 253) (pc' := 262) rfl (hb hby at_253) rfl ((if0 _ _).trans (tlt ((lw_gt _ _).mpr (show t18 < y2 from (by rw [Int64.lt_iff_toInt_lt]; have := Int64.lt_iff_toInt_lt.mp c8; omega)))).2.2.1) (by decide) (by decide) k) ?_
        show Done p e below s _ _ _ (T.setTop (mkF m 262 #[.val (.int p1), .val (.long q2), .second, .val (.long q3), .second, .val (.long q4), .second, .val (.long q5), .second, .val (.long q6), .second, .val (.ref b11), .val (.int (4 : Int32)), .val (.ref r13), .val (.int x14), .val (.long e15), .second, .val (.int x17), .val (.long t18), .second, .val (.int ((0 : Int32) + (1 : Int32))), .unset] []))
        refine Done.step (fun t k => XS.iload X0.here hx rfl (hb hby at_262) rfl k) ?_
        show Done p e below s _ _ _ (T.setTop (mkF m 264 #[.val (.int p1), .val (.long q2), .second, .val (.long q3), .second, .val (.long q4), .second, .val (.long q5), .second, .val (.long q6), .second, .val (.ref b11), .val (.int (4 : Int32)), .val (.ref r13), .val (.int x14), .val (.long e15), .second, .val (.int x17), .val (.long t18), .second, .val (.int ((0 : Int32) + (1 : Int32))), .unset] [(.int (4 : Int32))]))
        refine Done.step (fun t k => XS.iconst X0.here hx rfl (hb hby at_264) k) ?_
        show Done p e below s _ _ _ (T.setTop (mkF m 265 #[.val (.int p1), .val (.long q2), .second, .val (.long q3), .second, .val (.long q4), .second, .val (.long q5), .second, .val (.long q6), .second, .val (.ref b11), .val (.int (4 : Int32)), .val (.ref r13), .val (.int x14), .val (.long e15), .second, .val (.int x17), .val (.long t18), .second, .val (.int ((0 : Int32) + (1 : Int32))), .unset] [(.int (3 : Int32)), (.int (4 : Int32))]))
        refine Done.step (fun t k => XS.icmpNo X0.here hx rfl (hb hby at_265) rfl (tlt (by decide)).2.2.2 k) ?_
        show Done p e below s _ _ _ (T.setTop (mkF m 268 #[.val (.int p1), .val (.long q2), .second, .val (.long q3), .second, .val (.long q4), .second, .val (.long q5), .second, .val (.long q6), .second, .val (.ref b11), .val (.int (4 : Int32)), .val (.ref r13), .val (.int x14), .val (.long e15), .second, .val (.int x17), .val (.long t18), .second, .val (.int ((0 : Int32) + (1 : Int32))), .unset] []))
        refine Done.step (fun t k => XS.aload X0.here hx rfl (hb hby at_268) rfl rfl k) ?_
        show Done p e below s _ _ _ (T.setTop (mkF m 270 #[.val (.int p1), .val (.long q2), .second, .val (.long q3), .second, .val (.long q4), .second, .val (.long q5), .second, .val (.long q6), .second, .val (.ref b11), .val (.int (4 : Int32)), .val (.ref r13), .val (.int x14), .val (.long e15), .second, .val (.int x17), .val (.long t18), .second, .val (.int ((0 : Int32) + (1 : Int32))), .unset] [(.ref b11)]))
        refine Done.step (fun t k => XS.iconst X0.here hx rfl (hb hby at_270) k) ?_
        show Done p e below s _ _ _ (T.setTop (mkF m 271 #[.val (.int p1), .val (.long q2), .second, .val (.long q3), .second, .val (.long q4), .second, .val (.long q5), .second, .val (.long q6), .second, .val (.ref b11), .val (.int (4 : Int32)), .val (.ref r13), .val (.int x14), .val (.long e15), .second, .val (.int x17), .val (.long t18), .second, .val (.int ((0 : Int32) + (1 : Int32))), .unset] [(.int (3 : Int32)), (.ref b11)]))
        refine Done.step (ldJ X0 hx hZ e0 A11 (j := (3 : Int32)) (x := (.long y3)) (by decide) rfl (g := (mkF m 271 #[.val (.int p1), .val (.long q2), .second, .val (.long q3), .second, .val (.long q4), .second, .val (.long q5), .second, .val (.long q6), .second, .val (.ref b11), .val (.int (4 : Int32)), .val (.ref r13), .val (.int x14), .val (.long e15), .second, .val (.int x17), .val (.long t18), .second, .val (.int ((0 : Int32) + (1 : Int32))), .unset] [(.int (3 : Int32)), (.ref b11)])) rfl rfl (hb hby at_271)) ?_
        show Done p e below s _ _ _ (T.setTop (mkF m 272 #[.val (.int p1), .val (.long q2), .second, .val (.long q3), .second, .val (.long q4), .second, .val (.long q5), .second, .val (.long q6), .second, .val (.ref b11), .val (.int (4 : Int32)), .val (.ref r13), .val (.int x14), .val (.long e15), .second, .val (.int x17), .val (.long t18), .second, .val (.int ((0 : Int32) + (1 : Int32))), .unset] [(.long y3)]))
        refine Done.step (fun t k => XS.lload X0.here hx rfl (hb hby at_272) rfl k) ?_
        show Done p e below s _ _ _ (T.setTop (mkF m 274 #[.val (.int p1), .val (.long q2), .second, .val (.long q3), .second, .val (.long q4), .second, .val (.long q5), .second, .val (.long q6), .second, .val (.ref b11), .val (.int (4 : Int32)), .val (.ref r13), .val (.int x14), .val (.long e15), .second, .val (.int x17), .val (.long t18), .second, .val (.int ((0 : Int32) + (1 : Int32))), .unset] [(.long t18), (.long y3)]))
        refine Done.step (fun t k => XS.lcmp X0.here hx rfl (hb hby at_274) rfl k) ?_
        show Done p e below s _ _ _ (T.setTop (mkF m 275 #[.val (.int p1), .val (.long q2), .second, .val (.long q3), .second, .val (.long q4), .second, .val (.long q5), .second, .val (.long q6), .second, .val (.ref b11), .val (.int (4 : Int32)), .val (.ref r13), .val (.int x14), .val (.long e15), .second, .val (.int x17), .val (.long t18), .second, .val (.int ((0 : Int32) + (1 : Int32))), .unset] [(.int (lcmpW y3 t18))]))
        refine Done.step (fun t k => XS.ifYes X0.here hx rfl (pc0 := 275) (pc' := 284) rfl (hb hby at_275) rfl ((if0 _ _).trans (tlt ((lw_gt _ _).mpr (show t18 < y3 from (by rw [Int64.lt_iff_toInt_lt]; have := Int64.lt_iff_toInt_lt.mp c8; omega)))).2.2.1) (by decide) (by decide) k) ?_
        show Done p e below s _ _ _ (T.setTop (mkF m 284 #[.val (.int p1), .val (.long q2), .second, .val (.long q3), .second, .val (.long q4), .second, .val (.long q5), .second, .val (.long q6), .second, .val (.ref b11), .val (.int (4 : Int32)), .val (.ref r13), .val (.int x14), .val (.long e15), .second, .val (.int x17), .val (.long t18), .second, .val (.int ((0 : Int32) + (1 : Int32))), .unset] []))
        exact blk284 p1 q2 q3 q4 q5 q6 b11 (4 : Int32) r13 x14 e15 x17 t18 ((0 : Int32) + (1 : Int32)) (PFX (4 : Int32) y0 y1 y2 y3) X0 hx hZ hw hby hml hown hlk hret hnm N0 Z0 e0 A13 E13 (Nat.le_of_ble_eq_true rfl) (own_pos4 _ _ _ _ hy) (own_asc4 _ _ _ _ hy) (own_up4_1 _ _ _ _ _ hy (Int.not_lt.mp (fun q_ => c7 (Int64.lt_iff_toInt_lt.mpr q_))) (Int64.lt_iff_toInt_lt.mp c8))
      · refine Done.step (fun t k => XS.ifNo X0.here hx rfl (hb hby at_231) rfl ((if0 _ _).trans (flt (fun q_ => c8 ((lw_gt _ _).mp q_))).2.2.1) k) ?_
        show Done p e below s _ _ _ (T.setTop (mkF m 234 #[.val (.int p1), .val (.long q2), .second, .val (.long q3), .second, .val (.long q4), .second, .val (.long q5), .second, .val (.long q6), .second, .val (.ref b11), .val (.int (4 : Int32)), .val (.ref r13), .val (.int x14), .val (.long e15), .second, .val (.int x17), .val (.long t18), .second, .val (.int ((0 : Int32) + (1 : Int32))), .unset] []))
        refine Done.step (fun t k => XS.iload X0.here hx rfl (hb hby at_234) rfl k) ?_
        show Done p e below s _ _ _ (T.setTop (mkF m 236 #[.val (.int p1), .val (.long q2), .second, .val (.long q3), .second, .val (.long q4), .second, .val (.long q5), .second, .val (.long q6), .second, .val (.ref b11), .val (.int (4 : Int32)), .val (.ref r13), .val (.int x14), .val (.long e15), .second, .val (.int x17), .val (.long t18), .second, .val (.int ((0 : Int32) + (1 : Int32))), .unset] [(.int ((0 : Int32) + (1 : Int32)))]))
        refine Done.step (fun t k => XS.iconst X0.here hx rfl (hb hby at_236) k) ?_
        show Done p e below s _ _ _ (T.setTop (mkF m 237 #[.val (.int p1), .val (.long q2), .second, .val (.long q3), .second, .val (.long q4), .second, .val (.long q5), .second, .val (.long q6), .second, .val (.ref b11), .val (.int (4 : Int32)), .val (.ref r13), .val (.int x14), .val (.long e15), .second, .val (.int x17), .val (.long t18), .second, .val (.int ((0 : Int32) + (1 : Int32))), .unset] [(.int (1 : Int32)), (.int ((0 : Int32) + (1 : Int32)))]))
        refine Done.step (fun t k => XS.iadd X0.here hx rfl (hb hby at_237) rfl k) ?_
        show Done p e below s _ _ _ (T.setTop (mkF m 238 #[.val (.int p1), .val (.long q2), .second, .val (.long q3), .second, .val (.long q4), .second, .val (.long q5), .second, .val (.long q6), .second, .val (.ref b11), .val (.int (4 : Int32)), .val (.ref r13), .val (.int x14), .val (.long e15), .second, .val (.int x17), .val (.long t18), .second, .val (.int ((0 : Int32) + (1 : Int32))), .unset] [(.int (((0 : Int32) + (1 : Int32)) + (1 : Int32)))]))
        refine Done.step (fun t k => XS.istore X0.here hx rfl (hb hby at_238) rfl (l' := #[.val (.int p1), .val (.long q2), .second, .val (.long q3), .second, .val (.long q4), .second, .val (.long q5), .second, .val (.long q6), .second, .val (.ref b11), .val (.int (4 : Int32)), .val (.ref r13), .val (.int x14), .val (.long e15), .second, .val (.int x17), .val (.long t18), .second, .val (.int (((0 : Int32) + (1 : Int32)) + (1 : Int32))), .unset]) rfl k) ?_
        show Done p e below s _ _ _ (T.setTop (mkF m 240 #[.val (.int p1), .val (.long q2), .second, .val (.long q3), .second, .val (.long q4), .second, .val (.long q5), .second, .val (.long q6), .second, .val (.ref b11), .val (.int (4 : Int32)), .val (.ref r13), .val (.int x14), .val (.long e15), .second, .val (.int x17), .val (.long t18), .second, .val (.int (((0 : Int32) + (1 : Int32)) + (1 : Int32))), .unset] []))
        refine Done.step (fun t k => XS.iload X0.here hx rfl (hb hby at_240) rfl k) ?_
        show Done p e below s _ _ _ (T.setTop (mkF m 242 #[.val (.int p1), .val (.long q2), .second, .val (.long q3), .second, .val (.long q4), .second, .val (.long q5), .second, .val (.long q6), .second, .val (.ref b11), .val (.int (4 : Int32)), .val (.ref r13), .val (.int x14), .val (.long e15), .second, .val (.int x17), .val (.long t18), .second, .val (.int (((0 : Int32) + (1 : Int32)) + (1 : Int32))), .unset] [(.int (4 : Int32))]))
        refine Done.step (fun t k => XS.iconst X0.here hx rfl (hb hby at_242) k) ?_
        show Done p e below s _ _ _ (T.setTop (mkF m 243 #[.val (.int p1), .val (.long q2), .second, .val (.long q3), .second, .val (.long q4), .second, .val (.long q5), .second, .val (.long q6), .second, .val (.ref b11), .val (.int (4 : Int32)), .val (.ref r13), .val (.int x14), .val (.long e15), .second, .val (.int x17), .val (.long t18), .second, .val (.int (((0 : Int32) + (1 : Int32)) + (1 : Int32))), .unset] [(.int (2 : Int32)), (.int (4 : Int32))]))
        refine Done.step (fun t k => XS.icmpNo X0.here hx rfl (hb hby at_243) rfl (tlt (by decide)).2.2.2 k) ?_
        show Done p e below s _ _ _ (T.setTop (mkF m 246 #[.val (.int p1), .val (.long q2), .second, .val (.long q3), .second, .val (.long q4), .second, .val (.long q5), .second, .val (.long q6), .second, .val (.ref b11), .val (.int (4 : Int32)), .val (.ref r13), .val (.int x14), .val (.long e15), .second, .val (.int x17), .val (.long t18), .second, .val (.int (((0 : Int32) + (1 : Int32)) + (1 : Int32))), .unset] []))
        refine Done.step (fun t k => XS.aload X0.here hx rfl (hb hby at_246) rfl rfl k) ?_
        show Done p e below s _ _ _ (T.setTop (mkF m 248 #[.val (.int p1), .val (.long q2), .second, .val (.long q3), .second, .val (.long q4), .second, .val (.long q5), .second, .val (.long q6), .second, .val (.ref b11), .val (.int (4 : Int32)), .val (.ref r13), .val (.int x14), .val (.long e15), .second, .val (.int x17), .val (.long t18), .second, .val (.int (((0 : Int32) + (1 : Int32)) + (1 : Int32))), .unset] [(.ref b11)]))
        refine Done.step (fun t k => XS.iconst X0.here hx rfl (hb hby at_248) k) ?_
        show Done p e below s _ _ _ (T.setTop (mkF m 249 #[.val (.int p1), .val (.long q2), .second, .val (.long q3), .second, .val (.long q4), .second, .val (.long q5), .second, .val (.long q6), .second, .val (.ref b11), .val (.int (4 : Int32)), .val (.ref r13), .val (.int x14), .val (.long e15), .second, .val (.int x17), .val (.long t18), .second, .val (.int (((0 : Int32) + (1 : Int32)) + (1 : Int32))), .unset] [(.int (2 : Int32)), (.ref b11)]))
        refine Done.step (ldJ X0 hx hZ e0 A11 (j := (2 : Int32)) (x := (.long y2)) (by decide) rfl (g := (mkF m 249 #[.val (.int p1), .val (.long q2), .second, .val (.long q3), .second, .val (.long q4), .second, .val (.long q5), .second, .val (.long q6), .second, .val (.ref b11), .val (.int (4 : Int32)), .val (.ref r13), .val (.int x14), .val (.long e15), .second, .val (.int x17), .val (.long t18), .second, .val (.int (((0 : Int32) + (1 : Int32)) + (1 : Int32))), .unset] [(.int (2 : Int32)), (.ref b11)])) rfl rfl (hb hby at_249)) ?_
        show Done p e below s _ _ _ (T.setTop (mkF m 250 #[.val (.int p1), .val (.long q2), .second, .val (.long q3), .second, .val (.long q4), .second, .val (.long q5), .second, .val (.long q6), .second, .val (.ref b11), .val (.int (4 : Int32)), .val (.ref r13), .val (.int x14), .val (.long e15), .second, .val (.int x17), .val (.long t18), .second, .val (.int (((0 : Int32) + (1 : Int32)) + (1 : Int32))), .unset] [(.long y2)]))
        refine Done.step (fun t k => XS.lload X0.here hx rfl (hb hby at_250) rfl k) ?_
        show Done p e below s _ _ _ (T.setTop (mkF m 252 #[.val (.int p1), .val (.long q2), .second, .val (.long q3), .second, .val (.long q4), .second, .val (.long q5), .second, .val (.long q6), .second, .val (.ref b11), .val (.int (4 : Int32)), .val (.ref r13), .val (.int x14), .val (.long e15), .second, .val (.int x17), .val (.long t18), .second, .val (.int (((0 : Int32) + (1 : Int32)) + (1 : Int32))), .unset] [(.long t18), (.long y2)]))
        refine Done.step (fun t k => XS.lcmp X0.here hx rfl (hb hby at_252) rfl k) ?_
        show Done p e below s _ _ _ (T.setTop (mkF m 253 #[.val (.int p1), .val (.long q2), .second, .val (.long q3), .second, .val (.long q4), .second, .val (.long q5), .second, .val (.long q6), .second, .val (.ref b11), .val (.int (4 : Int32)), .val (.ref r13), .val (.int x14), .val (.long e15), .second, .val (.int x17), .val (.long t18), .second, .val (.int (((0 : Int32) + (1 : Int32)) + (1 : Int32))), .unset] [(.int (lcmpW y2 t18))]))
        by_cases c9 : t18 < y2
        · refine Done.step (fun t k => XS.ifYes X0.here hx rfl (pc0 := 253) (pc' := 262) rfl (hb hby at_253) rfl ((if0 _ _).trans (tlt ((lw_gt _ _).mpr c9)).2.2.1) (by decide) (by decide) k) ?_
          show Done p e below s _ _ _ (T.setTop (mkF m 262 #[.val (.int p1), .val (.long q2), .second, .val (.long q3), .second, .val (.long q4), .second, .val (.long q5), .second, .val (.long q6), .second, .val (.ref b11), .val (.int (4 : Int32)), .val (.ref r13), .val (.int x14), .val (.long e15), .second, .val (.int x17), .val (.long t18), .second, .val (.int (((0 : Int32) + (1 : Int32)) + (1 : Int32))), .unset] []))
          refine Done.step (fun t k => XS.iload X0.here hx rfl (hb hby at_262) rfl k) ?_
          show Done p e below s _ _ _ (T.setTop (mkF m 264 #[.val (.int p1), .val (.long q2), .second, .val (.long q3), .second, .val (.long q4), .second, .val (.long q5), .second, .val (.long q6), .second, .val (.ref b11), .val (.int (4 : Int32)), .val (.ref r13), .val (.int x14), .val (.long e15), .second, .val (.int x17), .val (.long t18), .second, .val (.int (((0 : Int32) + (1 : Int32)) + (1 : Int32))), .unset] [(.int (4 : Int32))]))
          refine Done.step (fun t k => XS.iconst X0.here hx rfl (hb hby at_264) k) ?_
          show Done p e below s _ _ _ (T.setTop (mkF m 265 #[.val (.int p1), .val (.long q2), .second, .val (.long q3), .second, .val (.long q4), .second, .val (.long q5), .second, .val (.long q6), .second, .val (.ref b11), .val (.int (4 : Int32)), .val (.ref r13), .val (.int x14), .val (.long e15), .second, .val (.int x17), .val (.long t18), .second, .val (.int (((0 : Int32) + (1 : Int32)) + (1 : Int32))), .unset] [(.int (3 : Int32)), (.int (4 : Int32))]))
          refine Done.step (fun t k => XS.icmpNo X0.here hx rfl (hb hby at_265) rfl (tlt (by decide)).2.2.2 k) ?_
          show Done p e below s _ _ _ (T.setTop (mkF m 268 #[.val (.int p1), .val (.long q2), .second, .val (.long q3), .second, .val (.long q4), .second, .val (.long q5), .second, .val (.long q6), .second, .val (.ref b11), .val (.int (4 : Int32)), .val (.ref r13), .val (.int x14), .val (.long e15), .second, .val (.int x17), .val (.long t18), .second, .val (.int (((0 : Int32) + (1 : Int32)) + (1 : Int32))), .unset] []))
          refine Done.step (fun t k => XS.aload X0.here hx rfl (hb hby at_268) rfl rfl k) ?_
          show Done p e below s _ _ _ (T.setTop (mkF m 270 #[.val (.int p1), .val (.long q2), .second, .val (.long q3), .second, .val (.long q4), .second, .val (.long q5), .second, .val (.long q6), .second, .val (.ref b11), .val (.int (4 : Int32)), .val (.ref r13), .val (.int x14), .val (.long e15), .second, .val (.int x17), .val (.long t18), .second, .val (.int (((0 : Int32) + (1 : Int32)) + (1 : Int32))), .unset] [(.ref b11)]))
          refine Done.step (fun t k => XS.iconst X0.here hx rfl (hb hby at_270) k) ?_
          show Done p e below s _ _ _ (T.setTop (mkF m 271 #[.val (.int p1), .val (.long q2), .second, .val (.long q3), .second, .val (.long q4), .second, .val (.long q5), .second, .val (.long q6), .second, .val (.ref b11), .val (.int (4 : Int32)), .val (.ref r13), .val (.int x14), .val (.long e15), .second, .val (.int x17), .val (.long t18), .second, .val (.int (((0 : Int32) + (1 : Int32)) + (1 : Int32))), .unset] [(.int (3 : Int32)), (.ref b11)]))
          refine Done.step (ldJ X0 hx hZ e0 A11 (j := (3 : Int32)) (x := (.long y3)) (by decide) rfl (g := (mkF m 271 #[.val (.int p1), .val (.long q2), .second, .val (.long q3), .second, .val (.long q4), .second, .val (.long q5), .second, .val (.long q6), .second, .val (.ref b11), .val (.int (4 : Int32)), .val (.ref r13), .val (.int x14), .val (.long e15), .second, .val (.int x17), .val (.long t18), .second, .val (.int (((0 : Int32) + (1 : Int32)) + (1 : Int32))), .unset] [(.int (3 : Int32)), (.ref b11)])) rfl rfl (hb hby at_271)) ?_
          show Done p e below s _ _ _ (T.setTop (mkF m 272 #[.val (.int p1), .val (.long q2), .second, .val (.long q3), .second, .val (.long q4), .second, .val (.long q5), .second, .val (.long q6), .second, .val (.ref b11), .val (.int (4 : Int32)), .val (.ref r13), .val (.int x14), .val (.long e15), .second, .val (.int x17), .val (.long t18), .second, .val (.int (((0 : Int32) + (1 : Int32)) + (1 : Int32))), .unset] [(.long y3)]))
          refine Done.step (fun t k => XS.lload X0.here hx rfl (hb hby at_272) rfl k) ?_
          show Done p e below s _ _ _ (T.setTop (mkF m 274 #[.val (.int p1), .val (.long q2), .second, .val (.long q3), .second, .val (.long q4), .second, .val (.long q5), .second, .val (.long q6), .second, .val (.ref b11), .val (.int (4 : Int32)), .val (.ref r13), .val (.int x14), .val (.long e15), .second, .val (.int x17), .val (.long t18), .second, .val (.int (((0 : Int32) + (1 : Int32)) + (1 : Int32))), .unset] [(.long t18), (.long y3)]))
          refine Done.step (fun t k => XS.lcmp X0.here hx rfl (hb hby at_274) rfl k) ?_
          show Done p e below s _ _ _ (T.setTop (mkF m 275 #[.val (.int p1), .val (.long q2), .second, .val (.long q3), .second, .val (.long q4), .second, .val (.long q5), .second, .val (.long q6), .second, .val (.ref b11), .val (.int (4 : Int32)), .val (.ref r13), .val (.int x14), .val (.long e15), .second, .val (.int x17), .val (.long t18), .second, .val (.int (((0 : Int32) + (1 : Int32)) + (1 : Int32))), .unset] [(.int (lcmpW y3 t18))]))
          refine Done.step (fun t k => XS.ifYes X0.here hx rfl (pc0 := 275) (pc' := 284) rfl (hb hby at_275) rfl ((if0 _ _).trans (tlt ((lw_gt _ _).mpr (show t18 < y3 from (by rw [Int64.lt_iff_toInt_lt]; have := Int64.lt_iff_toInt_lt.mp c9; omega)))).2.2.1) (by decide) (by decide) k) ?_
          show Done p e below s _ _ _ (T.setTop (mkF m 284 #[.val (.int p1), .val (.long q2), .second, .val (.long q3), .second, .val (.long q4), .second, .val (.long q5), .second, .val (.long q6), .second, .val (.ref b11), .val (.int (4 : Int32)), .val (.ref r13), .val (.int x14), .val (.long e15), .second, .val (.int x17), .val (.long t18), .second, .val (.int (((0 : Int32) + (1 : Int32)) + (1 : Int32))), .unset] []))
          exact blk284 p1 q2 q3 q4 q5 q6 b11 (4 : Int32) r13 x14 e15 x17 t18 (((0 : Int32) + (1 : Int32)) + (1 : Int32)) (PFX (4 : Int32) y0 y1 y2 y3) X0 hx hZ hw hby hml hown hlk hret hnm N0 Z0 e0 A13 E13 (Nat.le_of_ble_eq_true rfl) (own_pos4 _ _ _ _ hy) (own_asc4 _ _ _ _ hy) (own_up4_2 _ _ _ _ _ hy (Int.not_lt.mp (fun q_ => c7 (Int64.lt_iff_toInt_lt.mpr q_))) (Int.not_lt.mp (fun q_ => c8 (Int64.lt_iff_toInt_lt.mpr q_))) (Int64.lt_iff_toInt_lt.mp c9))
        · refine Done.step (fun t k => XS.ifNo X0.here hx rfl (hb hby at_253) rfl ((if0 _ _).trans (flt (fun q_ => c9 ((lw_gt _ _).mp q_))).2.2.1) k) ?_
          show Done p e below s _ _ _ (T.setTop (mkF m 256 #[.val (.int p1), .val (.long q2), .second, .val (.long q3), .second, .val (.long q4), .second, .val (.long q5), .second, .val (.long q6), .second, .val (.ref b11), .val (.int (4 : Int32)), .val (.ref r13), .val (.int x14), .val (.long e15), .second, .val (.int x17), .val (.long t18), .second, .val (.int (((0 : Int32) + (1 : Int32)) + (1 : Int32))), .unset] []))
          refine Done.step (fun t k => XS.iload X0.here hx rfl (hb hby at_256) rfl k) ?_
          show Done p e below s _ _ _ (T.setTop (mkF m 258 #[.val (.int p1), .val (.long q2), .second, .val (.long q3), .second, .val (.long q4), .second, .val (.long q5), .second, .val (.long q6), .second, .val (.ref b11), .val (.int (4 : Int32)), .val (.ref r13), .val (.int x14), .val (.long e15), .second, .val (.int x17), .val (.long t18), .second, .val (.int (((0 : Int32) + (1 : Int32)) + (1 : Int32))), .unset] [(.int (((0 : Int32) + (1 : Int32)) + (1 : Int32)))]))
          refine Done.step (fun t k => XS.iconst X0.here hx rfl (hb hby at_258) k) ?_
          show Done p e below s _ _ _ (T.setTop (mkF m 259 #[.val (.int p1), .val (.long q2), .second, .val (.long q3), .second, .val (.long q4), .second, .val (.long q5), .second, .val (.long q6), .second, .val (.ref b11), .val (.int (4 : Int32)), .val (.ref r13), .val (.int x14), .val (.long e15), .second, .val (.int x17), .val (.long t18), .second, .val (.int (((0 : Int32) + (1 : Int32)) + (1 : Int32))), .unset] [(.int (1 : Int32)), (.int (((0 : Int32) + (1 : Int32)) + (1 : Int32)))]))
          refine Done.step (fun t k => XS.iadd X0.here hx rfl (hb hby at_259) rfl k) ?_
          show Done p e below s _ _ _ (T.setTop (mkF m 260 #[.val (.int p1), .val (.long q2), .second, .val (.long q3), .second, .val (.long q4), .second, .val (.long q5), .second, .val (.long q6), .second, .val (.ref b11), .val (.int (4 : Int32)), .val (.ref r13), .val (.int x14), .val (.long e15), .second, .val (.int x17), .val (.long t18), .second, .val (.int (((0 : Int32) + (1 : Int32)) + (1 : Int32))), .unset] [(.int ((((0 : Int32) + (1 : Int32)) + (1 : Int32)) + (1 : Int32)))]))
          refine Done.step (fun t k => XS.istore X0.here hx rfl (hb hby at_260) rfl (l' := #[.val (.int p1), .val (.long q2), .second, .val (.long q3), .second, .val (.long q4), .second, .val (.long q5), .second, .val (.long q6), .second, .val (.ref b11), .val (.int (4 : Int32)), .val (.ref r13), .val (.int x14), .val (.long e15), .second, .val (.int x17), .val (.long t18), .second, .val (.int ((((0 : Int32) + (1 : Int32)) + (1 : Int32)) + (1 : Int32))), .unset]) rfl k) ?_
          show Done p e below s _ _ _ (T.setTop (mkF m 262 #[.val (.int p1), .val (.long q2), .second, .val (.long q3), .second, .val (.long q4), .second, .val (.long q5), .second, .val (.long q6), .second, .val (.ref b11), .val (.int (4 : Int32)), .val (.ref r13), .val (.int x14), .val (.long e15), .second, .val (.int x17), .val (.long t18), .second, .val (.int ((((0 : Int32) + (1 : Int32)) + (1 : Int32)) + (1 : Int32))), .unset] []))
          refine Done.step (fun t k => XS.iload X0.here hx rfl (hb hby at_262) rfl k) ?_
          show Done p e below s _ _ _ (T.setTop (mkF m 264 #[.val (.int p1), .val (.long q2), .second, .val (.long q3), .second, .val (.long q4), .second, .val (.long q5), .second, .val (.long q6), .second, .val (.ref b11), .val (.int (4 : Int32)), .val (.ref r13), .val (.int x14), .val (.long e15), .second, .val (.int x17), .val (.long t18), .second, .val (.int ((((0 : Int32) + (1 : Int32)) + (1 : Int32)) + (1 : Int32))), .unset] [(.int (4 : Int32))]))
          refine Done.step (fun t k => XS.iconst X0.here hx rfl (hb hby at_264) k) ?_
          show Done p e below s _ _ _ (T.setTop (mkF m 265 #[.val (.int p1), .val (.long q2), .second, .val (.long q3), .second, .val (.long q4), .second, .val (.long q5), .second, .val (.long q6), .second, .val (.ref b11), .val (.int (4 : Int32)), .val (.ref r13), .val (.int x14), .val (.long e15), .second, .val (.int x17), .val (.long t18), .second, .val (.int ((((0 : Int32) + (1 : Int32)) + (1 : Int32)) + (1 : Int32))), .unset] [(.int (3 : Int32)), (.int (4 : Int32))]))
          refine Done.step (fun t k => XS.icmpNo X0.here hx rfl (hb hby at_265) rfl (tlt (by decide)).2.2.2 k) ?_
          show Done p e below s _ _ _ (T.setTop (mkF m 268 #[.val (.int p1), .val (.long q2), .second, .val (.long q3), .second, .val (.long q4), .second, .val (.long q5), .second, .val (.long q6), .second, .val (.ref b11), .val (.int (4 : Int32)), .val (.ref r13), .val (.int x14), .val (.long e15), .second, .val (.int x17), .val (.long t18), .second, .val (.int ((((0 : Int32) + (1 : Int32)) + (1 : Int32)) + (1 : Int32))), .unset] []))
          refine Done.step (fun t k => XS.aload X0.here hx rfl (hb hby at_268) rfl rfl k) ?_
          show Done p e below s _ _ _ (T.setTop (mkF m 270 #[.val (.int p1), .val (.long q2), .second, .val (.long q3), .second, .val (.long q4), .second, .val (.long q5), .second, .val (.long q6), .second, .val (.ref b11), .val (.int (4 : Int32)), .val (.ref r13), .val (.int x14), .val (.long e15), .second, .val (.int x17), .val (.long t18), .second, .val (.int ((((0 : Int32) + (1 : Int32)) + (1 : Int32)) + (1 : Int32))), .unset] [(.ref b11)]))
          refine Done.step (fun t k => XS.iconst X0.here hx rfl (hb hby at_270) k) ?_
          show Done p e below s _ _ _ (T.setTop (mkF m 271 #[.val (.int p1), .val (.long q2), .second, .val (.long q3), .second, .val (.long q4), .second, .val (.long q5), .second, .val (.long q6), .second, .val (.ref b11), .val (.int (4 : Int32)), .val (.ref r13), .val (.int x14), .val (.long e15), .second, .val (.int x17), .val (.long t18), .second, .val (.int ((((0 : Int32) + (1 : Int32)) + (1 : Int32)) + (1 : Int32))), .unset] [(.int (3 : Int32)), (.ref b11)]))
          refine Done.step (ldJ X0 hx hZ e0 A11 (j := (3 : Int32)) (x := (.long y3)) (by decide) rfl (g := (mkF m 271 #[.val (.int p1), .val (.long q2), .second, .val (.long q3), .second, .val (.long q4), .second, .val (.long q5), .second, .val (.long q6), .second, .val (.ref b11), .val (.int (4 : Int32)), .val (.ref r13), .val (.int x14), .val (.long e15), .second, .val (.int x17), .val (.long t18), .second, .val (.int ((((0 : Int32) + (1 : Int32)) + (1 : Int32)) + (1 : Int32))), .unset] [(.int (3 : Int32)), (.ref b11)])) rfl rfl (hb hby at_271)) ?_
          show Done p e below s _ _ _ (T.setTop (mkF m 272 #[.val (.int p1), .val (.long q2), .second, .val (.long q3), .second, .val (.long q4), .second, .val (.long q5), .second, .val (.long q6), .second, .val (.ref b11), .val (.int (4 : Int32)), .val (.ref r13), .val (.int x14), .val (.long e15), .second, .val (.int x17), .val (.long t18), .second, .val (.int ((((0 : Int32) + (1 : Int32)) + (1 : Int32)) + (1 : Int32))), .unset] [(.long y3)]))
          refine Done.step (fun t k => XS.lload X0.here hx rfl (hb hby at_272) rfl k) ?_
          show Done p e below s _ _ _ (T.setTop (mkF m 274 #[.val (.int p1), .val (.long q2), .second, .val (.long q3), .second, .val (.long q4), .second, .val (.long q5), .second, .val (.long q6), .second, .val (.ref b11), .val (.int (4 : Int32)), .val (.ref r13), .val (.int x14), .val (.long e15), .second, .val (.int x17), .val (.long t18), .second, .val (.int ((((0 : Int32) + (1 : Int32)) + (1 : Int32)) + (1 : Int32))), .unset] [(.long t18), (.long y3)]))
          refine Done.step (fun t k => XS.lcmp X0.here hx rfl (hb hby at_274) rfl k) ?_
          show Done p e below s _ _ _ (T.setTop (mkF m 275 #[.val (.int p1), .val (.long q2), .second, .val (.long q3), .second, .val (.long q4), .second, .val (.long q5), .second, .val (.long q6), .second, .val (.ref b11), .val (.int (4 : Int32)), .val (.ref r13), .val (.int x14), .val (.long e15), .second, .val (.int x17), .val (.long t18), .second, .val (.int ((((0 : Int32) + (1 : Int32)) + (1 : Int32)) + (1 : Int32))), .unset] [(.int (lcmpW y3 t18))]))
          by_cases c10 : t18 < y3
          · refine Done.step (fun t k => XS.ifYes X0.here hx rfl (pc0 := 275) (pc' := 284) rfl (hb hby at_275) rfl ((if0 _ _).trans (tlt ((lw_gt _ _).mpr c10)).2.2.1) (by decide) (by decide) k) ?_
            show Done p e below s _ _ _ (T.setTop (mkF m 284 #[.val (.int p1), .val (.long q2), .second, .val (.long q3), .second, .val (.long q4), .second, .val (.long q5), .second, .val (.long q6), .second, .val (.ref b11), .val (.int (4 : Int32)), .val (.ref r13), .val (.int x14), .val (.long e15), .second, .val (.int x17), .val (.long t18), .second, .val (.int ((((0 : Int32) + (1 : Int32)) + (1 : Int32)) + (1 : Int32))), .unset] []))
            exact blk284 p1 q2 q3 q4 q5 q6 b11 (4 : Int32) r13 x14 e15 x17 t18 ((((0 : Int32) + (1 : Int32)) + (1 : Int32)) + (1 : Int32)) (PFX (4 : Int32) y0 y1 y2 y3) X0 hx hZ hw hby hml hown hlk hret hnm N0 Z0 e0 A13 E13 (Nat.le_of_ble_eq_true rfl) (own_pos4 _ _ _ _ hy) (own_asc4 _ _ _ _ hy) (own_up4_3 _ _ _ _ _ hy (Int.not_lt.mp (fun q_ => c7 (Int64.lt_iff_toInt_lt.mpr q_))) (Int.not_lt.mp (fun q_ => c8 (Int64.lt_iff_toInt_lt.mpr q_))) (Int.not_lt.mp (fun q_ => c9 (Int64.lt_iff_toInt_lt.mpr q_))) (Int64.lt_iff_toInt_lt.mp c10))
          · refine Done.step (fun t k => XS.ifNo X0.here hx rfl (hb hby at_275) rfl ((if0 _ _).trans (flt (fun q_ => c10 ((lw_gt _ _).mp q_))).2.2.1) k) ?_
            show Done p e below s _ _ _ (T.setTop (mkF m 278 #[.val (.int p1), .val (.long q2), .second, .val (.long q3), .second, .val (.long q4), .second, .val (.long q5), .second, .val (.long q6), .second, .val (.ref b11), .val (.int (4 : Int32)), .val (.ref r13), .val (.int x14), .val (.long e15), .second, .val (.int x17), .val (.long t18), .second, .val (.int ((((0 : Int32) + (1 : Int32)) + (1 : Int32)) + (1 : Int32))), .unset] []))
            refine Done.step (fun t k => XS.iload X0.here hx rfl (hb hby at_278) rfl k) ?_
            show Done p e below s _ _ _ (T.setTop (mkF m 280 #[.val (.int p1), .val (.long q2), .second, .val (.long q3), .second, .val (.long q4), .second, .val (.long q5), .second, .val (.long q6), .second, .val (.ref b11), .val (.int (4 : Int32)), .val (.ref r13), .val (.int x14), .val (.long e15), .second, .val (.int x17), .val (.long t18), .second, .val (.int ((((0 : Int32) + (1 : Int32)) + (1 : Int32)) + (1 : Int32))), .unset] [(.int ((((0 : Int32) + (1 : Int32)) + (1 : Int32)) + (1 : Int32)))]))
            refine Done.step (fun t k => XS.iconst X0.here hx rfl (hb hby at_280) k) ?_
            show Done p e below s _ _ _ (T.setTop (mkF m 281 #[.val (.int p1), .val (.long q2), .second, .val (.long q3), .second, .val (.long q4), .second, .val (.long q5), .second, .val (.long q6), .second, .val (.ref b11), .val (.int (4 : Int32)), .val (.ref r13), .val (.int x14), .val (.long e15), .second, .val (.int x17), .val (.long t18), .second, .val (.int ((((0 : Int32) + (1 : Int32)) + (1 : Int32)) + (1 : Int32))), .unset] [(.int (1 : Int32)), (.int ((((0 : Int32) + (1 : Int32)) + (1 : Int32)) + (1 : Int32)))]))
            refine Done.step (fun t k => XS.iadd X0.here hx rfl (hb hby at_281) rfl k) ?_
            show Done p e below s _ _ _ (T.setTop (mkF m 282 #[.val (.int p1), .val (.long q2), .second, .val (.long q3), .second, .val (.long q4), .second, .val (.long q5), .second, .val (.long q6), .second, .val (.ref b11), .val (.int (4 : Int32)), .val (.ref r13), .val (.int x14), .val (.long e15), .second, .val (.int x17), .val (.long t18), .second, .val (.int ((((0 : Int32) + (1 : Int32)) + (1 : Int32)) + (1 : Int32))), .unset] [(.int (((((0 : Int32) + (1 : Int32)) + (1 : Int32)) + (1 : Int32)) + (1 : Int32)))]))
            refine Done.step (fun t k => XS.istore X0.here hx rfl (hb hby at_282) rfl (l' := #[.val (.int p1), .val (.long q2), .second, .val (.long q3), .second, .val (.long q4), .second, .val (.long q5), .second, .val (.long q6), .second, .val (.ref b11), .val (.int (4 : Int32)), .val (.ref r13), .val (.int x14), .val (.long e15), .second, .val (.int x17), .val (.long t18), .second, .val (.int (((((0 : Int32) + (1 : Int32)) + (1 : Int32)) + (1 : Int32)) + (1 : Int32))), .unset]) rfl k) ?_
            show Done p e below s _ _ _ (T.setTop (mkF m 284 #[.val (.int p1), .val (.long q2), .second, .val (.long q3), .second, .val (.long q4), .second, .val (.long q5), .second, .val (.long q6), .second, .val (.ref b11), .val (.int (4 : Int32)), .val (.ref r13), .val (.int x14), .val (.long e15), .second, .val (.int x17), .val (.long t18), .second, .val (.int (((((0 : Int32) + (1 : Int32)) + (1 : Int32)) + (1 : Int32)) + (1 : Int32))), .unset] []))
            exact blk284 p1 q2 q3 q4 q5 q6 b11 (4 : Int32) r13 x14 e15 x17 t18 (((((0 : Int32) + (1 : Int32)) + (1 : Int32)) + (1 : Int32)) + (1 : Int32)) (PFX (4 : Int32) y0 y1 y2 y3) X0 hx hZ hw hby hml hown hlk hret hnm N0 Z0 e0 A13 E13 (Nat.le_of_ble_eq_true rfl) (own_pos4 _ _ _ _ hy) (own_asc4 _ _ _ _ hy) (own_up4_4 _ _ _ _ _ hy (Int.not_lt.mp (fun q_ => c7 (Int64.lt_iff_toInt_lt.mpr q_))) (Int.not_lt.mp (fun q_ => c8 (Int64.lt_iff_toInt_lt.mpr q_))) (Int.not_lt.mp (fun q_ => c9 (Int64.lt_iff_toInt_lt.mpr q_))) (Int.not_lt.mp (fun q_ => c10 (Int64.lt_iff_toInt_lt.mpr q_))))
theorem own_n (p x : Int32) (h : ((p &&& (7 : Int32)) % (5 : Int32)) = x) : x = (0 : Int32) ∨ x = (1 : Int32) ∨ x = (2 : Int32) ∨ x = (3 : Int32) ∨ x = (4 : Int32) := by
  have m := c_mask p (7 : Int32) 3 (by decide) (by decide)
  have r := (c_irem (p &&& (7 : Int32)) (5 : Int32) 5 (by decide)).1 (by omega)
  rw [h] at r
  simp only [← Int32.toInt_inj, show (0 : Int32).toInt = 0 from rfl, show (1 : Int32).toInt = 1 from rfl, show (2 : Int32).toInt = 2 from rfl, show (3 : Int32).toInt = 3 from rfl, show (4 : Int32).toInt = 4 from rfl]
  omega
theorem own_idx (p x : Int32) (h : (((p.toUInt32 >>> ((8 : Int32) &&& 31).toUInt32).toInt32) &&& (3 : Int32)) = x) (y0 y1 y2 y3 : Int64) : ∃ e : Int64, ¬ x < 0 ∧ (([Value.long y0, Value.long y1, Value.long y2, Value.long y3] : List Value))[x.toNatClampNeg]? = some (.long e) := by
  have m := c_mask ((p.toUInt32 >>> ((8 : Int32) &&& 31).toUInt32).toInt32) (3 : Int32) 2 (by decide) (by decide)
  rw [h] at m
  obtain q | q | q | q : x.toInt = 0 ∨ x.toInt = 1 ∨ x.toInt = 2 ∨ x.toInt = 3 := by omega
  · obtain rfl : x = (0 : Int32) := Int32.toInt_inj.mp (by rw [q]; rfl)
    exact ⟨y0, by decide, rfl⟩
  · obtain rfl : x = (1 : Int32) := Int32.toInt_inj.mp (by rw [q]; rfl)
    exact ⟨y1, by decide, rfl⟩
  · obtain rfl : x = (2 : Int32) := Int32.toInt_inj.mp (by rw [q]; rfl)
    exact ⟨y2, by decide, rfl⟩
  · obtain rfl : x = (3 : Int32) := Int32.toInt_inj.mp (by rw [q]; rfl)
    exact ⟨y3, by decide, rfl⟩
set_option maxRecDepth 65536 in
set_option maxHeartbeats 40000000 in
theorem blk108 {p : Program} {l : Launch} {e : Env} {s : State} {m : MethodId} {args : Array Value} {below : List Frame} {meth : Method} {c : Code} {T : State} {locs : List Loc} {Z : State} {a0 : Array Value} {h0 : Heap} {n0 : Nat} (p1 : Int32) (q2 q3 q4 q5 q6 : Int64) (b11 : Addr) (y0 y1 y2 y3 : Int64)
    (X0 : Stand p l e room_1 s m args below meth c T locs 1 4) (hx : p.tables.exec = Jvm.exec) (hZ : Z.Warmed39 s.vm) (hw : ∀ d ∈ tables_1, d.before a0 Z = true) (hby : c.code = code) (hml : c.maxLocals = 22) (hown : s.vm.findClass "com/example/upkeep/upkeep/core/PageChangesVersionAtPinLaw" = some m.cls) (hlk : meth.locks = false) (hret : meth.sig.returnType = ret) (hnm : meth.name = "law") (N0 : Fr n0 locs) (Z0 : n0 ≤ h0.size) (e0 : T.heap = h0) (hy : 0 ≤ y0.toInt ∧ y0.toInt ≤ y1.toInt ∧ y1.toInt ≤ y2.toInt ∧ y2.toInt ≤ y3.toInt) (A11 : Ax Z h0 b11 .long [(.long y0), (.long y1), (.long y2), (.long y3)]) :
    Done p e below s (fun v h L => v = some (.int 1) ∧ Fr n0 L) room_1.cells room_1.slots (T.setTop (mkF m 108 #[.val (.int p1), .val (.long q2), .second, .val (.long q3), .second, .val (.long q4), .second, .val (.long q5), .second, .val (.long q6), .second, .val (.ref b11), .unset, .unset, .unset, .unset, .unset, .unset, .unset, .unset, .unset, .unset] [])) := by
  show Done p e below s _ _ _ (T.setTop (mkF m 108 #[.val (.int p1), .val (.long q2), .second, .val (.long q3), .second, .val (.long q4), .second, .val (.long q5), .second, .val (.long q6), .second, .val (.ref b11), .unset, .unset, .unset, .unset, .unset, .unset, .unset, .unset, .unset, .unset] []))
  refine Done.step (fun t k => XS.iloadN X0.here hx rfl (hb hby at_108) rfl k) ?_
  show Done p e below s _ _ _ (T.setTop (mkF m 109 #[.val (.int p1), .val (.long q2), .second, .val (.long q3), .second, .val (.long q4), .second, .val (.long q5), .second, .val (.long q6), .second, .val (.ref b11), .unset, .unset, .unset, .unset, .unset, .unset, .unset, .unset, .unset, .unset] [(.int p1)]))
  refine Done.step (fun t k => XS.bipush X0.here hx rfl (hb hby at_109) k) ?_
  show Done p e below s _ _ _ (T.setTop (mkF m 111 #[.val (.int p1), .val (.long q2), .second, .val (.long q3), .second, .val (.long q4), .second, .val (.long q5), .second, .val (.long q6), .second, .val (.ref b11), .unset, .unset, .unset, .unset, .unset, .unset, .unset, .unset, .unset, .unset] [(.int (7 : Int32)), (.int p1)]))
  refine Done.step (fun t k => XS.iand X0.here hx rfl (hb hby at_111) rfl k) ?_
  show Done p e below s _ _ _ (T.setTop (mkF m 112 #[.val (.int p1), .val (.long q2), .second, .val (.long q3), .second, .val (.long q4), .second, .val (.long q5), .second, .val (.long q6), .second, .val (.ref b11), .unset, .unset, .unset, .unset, .unset, .unset, .unset, .unset, .unset, .unset] [(.int (p1 &&& (7 : Int32)))]))
  refine Done.step (fun t k => XS.iconst X0.here hx rfl (hb hby at_112) k) ?_
  show Done p e below s _ _ _ (T.setTop (mkF m 113 #[.val (.int p1), .val (.long q2), .second, .val (.long q3), .second, .val (.long q4), .second, .val (.long q5), .second, .val (.long q6), .second, .val (.ref b11), .unset, .unset, .unset, .unset, .unset, .unset, .unset, .unset, .unset, .unset] [(.int (5 : Int32)), (.int (p1 &&& (7 : Int32)))]))
  refine Done.step (fun t k => iremM X0 hx rfl (hb hby at_113) rfl (by decide) k) ?_
  show Done p e below s _ _ _ (T.setTop (mkF m 114 #[.val (.int p1), .val (.long q2), .second, .val (.long q3), .second, .val (.long q4), .second, .val (.long q5), .second, .val (.long q6), .second, .val (.ref b11), .unset, .unset, .unset, .unset, .unset, .unset, .unset, .unset, .unset, .unset] [(.int ((p1 &&& (7 : Int32)) % (5 : Int32)))]))
  generalize dx101 : ((p1 &&& (7 : Int32)) % (5 : Int32)) = x101
  show Done p e below s _ _ _ (T.setTop (mkF m 114 #[.val (.int p1), .val (.long q2), .second, .val (.long q3), .second, .val (.long q4), .second, .val (.long q5), .second, .val (.long q6), .second, .val (.ref b11), .unset, .unset, .unset, .unset, .unset, .unset, .unset, .unset, .unset, .unset] [(.int x101)]))
  refine Done.step (fun t k => XS.istore X0.here hx rfl (hb hby at_114) rfl (l' := #[.val (.int p1), .val (.long q2), .second, .val (.long q3), .second, .val (.long q4), .second, .val (.long q5), .second, .val (.long q6), .second, .val (.ref b11), .val (.int x101), .unset, .unset, .unset, .unset, .unset, .unset, .unset, .unset, .unset]) rfl k) ?_
  show Done p e below s _ _ _ (T.setTop (mkF m 116 #[.val (.int p1), .val (.long q2), .second, .val (.long q3), .second, .val (.long q4), .second, .val (.long q5), .second, .val (.long q6), .second, .val (.ref b11), .val (.int x101), .unset, .unset, .unset, .unset, .unset, .unset, .unset, .unset, .unset] []))
  refine Done.step (fun t k => XS.aload X0.here hx rfl (hb hby at_116) rfl rfl k) ?_
  show Done p e below s _ _ _ (T.setTop (mkF m 118 #[.val (.int p1), .val (.long q2), .second, .val (.long q3), .second, .val (.long q4), .second, .val (.long q5), .second, .val (.long q6), .second, .val (.ref b11), .val (.int x101), .unset, .unset, .unset, .unset, .unset, .unset, .unset, .unset, .unset] [(.ref b11)]))
  refine Done.step (fun t k => XS.iload X0.here hx rfl (hb hby at_118) rfl k) ?_
  show Done p e below s _ _ _ (T.setTop (mkF m 120 #[.val (.int p1), .val (.long q2), .second, .val (.long q3), .second, .val (.long q4), .second, .val (.long q5), .second, .val (.long q6), .second, .val (.ref b11), .val (.int x101), .unset, .unset, .unset, .unset, .unset, .unset, .unset, .unset, .unset] [(.int x101), (.ref b11)]))
  obtain ⟨v102, _, ⟨T102, L102, k102, n102⟩, -, X102, ⟨Lc102, hQ102, l102, y102, z102⟩, st102⟩ := Jvm.LawKit.callS X0 hx (y := (⟨"com/example/upkeep/upkeep/core/PageChangesVersionAtPinLaw", "prefix", "([JI)[J"⟩ : MethodName)) hown (mvT hZ (hw _ (List.mem_of_getElem? (i := 6) rfl))) (mvT hZ (hw _ (List.mem_of_getElem? (i := 7) rfl))) (mvT hZ (hw _ (List.mem_of_getElem? (i := 4) rfl))) (mvT hZ (hw _ (List.mem_of_getElem? (i := 8) rfl))) (by decide) (backOf (W := 0) (rm2 l Z a0 hw [] b11 x101 y0 y1 y2 y3 h0 n0 Z0 A11) hZ (hw _ (List.mem_of_getElem? (i := 8) rfl)) (hw _ (List.mem_of_getElem? (i := 4) rfl)) (by decide) (by decide)) (g := (mkF m 120 #[.val (.int p1), .val (.long q2), .second, .val (.long q3), .second, .val (.long q4), .second, .val (.long q5), .second, .val (.long q6), .second, .val (.ref b11), .val (.int x101), .unset, .unset, .unset, .unset, .unset, .unset, .unset, .unset, .unset] [(.int x101), (.ref b11)])) rfl (by rw [hml]; rfl) (argsL := [(.ref b11), (.int x101)]) (rest := []) (lenOf pd_2 rfl) rfl (by show 2 * 0 + _ ≤ _; exact Nat.le_of_eq rfl) (hb hby at_120) (fun _ _ => ⟨rfl, e0, (by decide : 1 + 1 ≤ _), (by decide : 4 + 4 ≤ _)⟩)
  dsimp only [Pt.U, Pt.locs, Pt.cells, Pt.slots] at X102 l102 y102 z102 st102 hQ102
  subst l102 y102 z102
  refine Done.step st102 ?_
  obtain ⟨r102, rfl, N102q, K102q, x102, y102v, w102⟩ := hQ102
  have N102 := Fr.app N0 N102q
  have ne103 : b11 ≠ r102 := Nat.ne_of_lt (Nat.lt_of_lt_of_le A11.lt w102)
  have f104 : Ax Z T102.heap b11 .long [(.long y0), (.long y1), (.long y2), (.long y3)] := A11.keep K102q nin0
  have Zk102 : n0 ≤ T102.heap.size := Nat.le_trans Z0 K102q.1
  show Done p e below s _ _ _ (T102.setTop (mkF m 123 #[.val (.int p1), .val (.long q2), .second, .val (.long q3), .second, .val (.long q4), .second, .val (.long q5), .second, .val (.long q6), .second, .val (.ref b11), .val (.int x101), .unset, .unset, .unset, .unset, .unset, .unset, .unset, .unset, .unset] [(.ref r102)]))
  refine Done.step (fun t k => XS.astore X102.here hx rfl (hb hby at_123) rfl rfl (l' := #[.val (.int p1), .val (.long q2), .second, .val (.long q3), .second, .val (.long q4), .second, .val (.long q5), .second, .val (.long q6), .second, .val (.ref b11), .val (.int x101), .val (.ref r102), .unset, .unset, .unset, .unset, .unset, .unset, .unset, .unset]) rfl k) ?_
  show Done p e below s _ _ _ (T102.setTop (mkF m 125 #[.val (.int p1), .val (.long q2), .second, .val (.long q3), .second, .val (.long q4), .second, .val (.long q5), .second, .val (.long q6), .second, .val (.ref b11), .val (.int x101), .val (.ref r102), .unset, .unset, .unset, .unset, .unset, .unset, .unset, .unset] []))
  refine Done.step (fun t k => XS.iloadN X102.here hx rfl (hb hby at_125) rfl k) ?_
  show Done p e below s _ _ _ (T102.setTop (mkF m 126 #[.val (.int p1), .val (.long q2), .second, .val (.long q3), .second, .val (.long q4), .second, .val (.long q5), .second, .val (.long q6), .second, .val (.ref b11), .val (.int x101), .val (.ref r102), .unset, .unset, .unset, .unset, .unset, .unset, .unset, .unset] [(.int p1)]))
  refine Done.step (fun t k => XS.bipush X102.here hx rfl (hb hby at_126) k) ?_
  show Done p e below s _ _ _ (T102.setTop (mkF m 128 #[.val (.int p1), .val (.long q2), .second, .val (.long q3), .second, .val (.long q4), .second, .val (.long q5), .second, .val (.long q6), .second, .val (.ref b11), .val (.int x101), .val (.ref r102), .unset, .unset, .unset, .unset, .unset, .unset, .unset, .unset] [(.int (8 : Int32)), (.int p1)]))
  refine Done.step (fun t k => XS.iushr X102.here hx rfl (hb hby at_128) rfl k) ?_
  show Done p e below s _ _ _ (T102.setTop (mkF m 129 #[.val (.int p1), .val (.long q2), .second, .val (.long q3), .second, .val (.long q4), .second, .val (.long q5), .second, .val (.long q6), .second, .val (.ref b11), .val (.int x101), .val (.ref r102), .unset, .unset, .unset, .unset, .unset, .unset, .unset, .unset] [(.int ((p1.toUInt32 >>> ((8 : Int32) &&& 31).toUInt32).toInt32))]))
  refine Done.step (fun t k => XS.iconst X102.here hx rfl (hb hby at_129) k) ?_
  show Done p e below s _ _ _ (T102.setTop (mkF m 130 #[.val (.int p1), .val (.long q2), .second, .val (.long q3), .second, .val (.long q4), .second, .val (.long q5), .second, .val (.long q6), .second, .val (.ref b11), .val (.int x101), .val (.ref r102), .unset, .unset, .unset, .unset, .unset, .unset, .unset, .unset] [(.int (3 : Int32)), (.int ((p1.toUInt32 >>> ((8 : Int32) &&& 31).toUInt32).toInt32))]))
  refine Done.step (fun t k => XS.iand X102.here hx rfl (hb hby at_130) rfl k) ?_
  show Done p e below s _ _ _ (T102.setTop (mkF m 131 #[.val (.int p1), .val (.long q2), .second, .val (.long q3), .second, .val (.long q4), .second, .val (.long q5), .second, .val (.long q6), .second, .val (.ref b11), .val (.int x101), .val (.ref r102), .unset, .unset, .unset, .unset, .unset, .unset, .unset, .unset] [(.int (((p1.toUInt32 >>> ((8 : Int32) &&& 31).toUInt32).toInt32) &&& (3 : Int32)))]))
  generalize dx105 : (((p1.toUInt32 >>> ((8 : Int32) &&& 31).toUInt32).toInt32) &&& (3 : Int32)) = x105
  show Done p e below s _ _ _ (T102.setTop (mkF m 131 #[.val (.int p1), .val (.long q2), .second, .val (.long q3), .second, .val (.long q4), .second, .val (.long q5), .second, .val (.long q6), .second, .val (.ref b11), .val (.int x101), .val (.ref r102), .unset, .unset, .unset, .unset, .unset, .unset, .unset, .unset] [(.int x105)]))
  refine Done.step (fun t k => XS.istore X102.here hx rfl (hb hby at_131) rfl (l' := #[.val (.int p1), .val (.long q2), .second, .val (.long q3), .second, .val (.long q4), .second, .val (.long q5), .second, .val (.long q6), .second, .val (.ref b11), .val (.int x101), .val (.ref r102), .val (.int x105), .unset, .unset, .unset, .unset, .unset, .unset, .unset]) rfl k) ?_
  show Done p e below s _ _ _ (T102.setTop (mkF m 133 #[.val (.int p1), .val (.long q2), .second, .val (.long q3), .second, .val (.long q4), .second, .val (.long q5), .second, .val (.long q6), .second, .val (.ref b11), .val (.int x101), .val (.ref r102), .val (.int x105), .unset, .unset, .unset, .unset, .unset, .unset, .unset] []))
  refine Done.step (fun t k => XS.aload X102.here hx rfl (hb hby at_133) rfl rfl k) ?_
  show Done p e below s _ _ _ (T102.setTop (mkF m 135 #[.val (.int p1), .val (.long q2), .second, .val (.long q3), .second, .val (.long q4), .second, .val (.long q5), .second, .val (.long q6), .second, .val (.ref b11), .val (.int x101), .val (.ref r102), .val (.int x105), .unset, .unset, .unset, .unset, .unset, .unset, .unset] [(.ref b11)]))
  refine Done.step (fun t k => XS.iload X102.here hx rfl (hb hby at_135) rfl k) ?_
  show Done p e below s _ _ _ (T102.setTop (mkF m 137 #[.val (.int p1), .val (.long q2), .second, .val (.long q3), .second, .val (.long q4), .second, .val (.long q5), .second, .val (.long q6), .second, .val (.ref b11), .val (.int x101), .val (.ref r102), .val (.int x105), .unset, .unset, .unset, .unset, .unset, .unset, .unset] [(.int x105), (.ref b11)]))
  obtain ⟨ee, hne, hee⟩ := own_idx p1 x105 dx105 y0 y1 y2 y3
  refine Done.step (ldJ X102 hx hZ rfl f104 (j := x105) (x := (.long ee)) hne hee (g := (mkF m 137 #[.val (.int p1), .val (.long q2), .second, .val (.long q3), .second, .val (.long q4), .second, .val (.long q5), .second, .val (.long q6), .second, .val (.ref b11), .val (.int x101), .val (.ref r102), .val (.int x105), .unset, .unset, .unset, .unset, .unset, .unset, .unset] [(.int x105), (.ref b11)])) rfl rfl (hb hby at_137)) ?_
  show Done p e below s _ _ _ (T102.setTop (mkF m 138 #[.val (.int p1), .val (.long q2), .second, .val (.long q3), .second, .val (.long q4), .second, .val (.long q5), .second, .val (.long q6), .second, .val (.ref b11), .val (.int x101), .val (.ref r102), .val (.int x105), .unset, .unset, .unset, .unset, .unset, .unset, .unset] [(.long ee)]))
  refine Done.step (fun t k => XS.lstore X102.here hx rfl (hb hby at_138) rfl (l' := #[.val (.int p1), .val (.long q2), .second, .val (.long q3), .second, .val (.long q4), .second, .val (.long q5), .second, .val (.long q6), .second, .val (.ref b11), .val (.int x101), .val (.ref r102), .val (.int x105), .val (.long ee), .second, .unset, .unset, .unset, .unset, .unset]) rfl k) ?_
  show Done p e below s _ _ _ (T102.setTop (mkF m 140 #[.val (.int p1), .val (.long q2), .second, .val (.long q3), .second, .val (.long q4), .second, .val (.long q5), .second, .val (.long q6), .second, .val (.ref b11), .val (.int x101), .val (.ref r102), .val (.int x105), .val (.long ee), .second, .unset, .unset, .unset, .unset, .unset] []))
  refine Done.step (fun t k => XS.iloadN X102.here hx rfl (hb hby at_140) rfl k) ?_
  show Done p e below s _ _ _ (T102.setTop (mkF m 141 #[.val (.int p1), .val (.long q2), .second, .val (.long q3), .second, .val (.long q4), .second, .val (.long q5), .second, .val (.long q6), .second, .val (.ref b11), .val (.int x101), .val (.ref r102), .val (.int x105), .val (.long ee), .second, .unset, .unset, .unset, .unset, .unset] [(.int p1)]))
  refine Done.step (fun t k => XS.bipush X102.here hx rfl (hb hby at_141) k) ?_
  show Done p e below s _ _ _ (T102.setTop (mkF m 143 #[.val (.int p1), .val (.long q2), .second, .val (.long q3), .second, .val (.long q4), .second, .val (.long q5), .second, .val (.long q6), .second, .val (.ref b11), .val (.int x101), .val (.ref r102), .val (.int x105), .val (.long ee), .second, .unset, .unset, .unset, .unset, .unset] [(.int (10 : Int32)), (.int p1)]))
  refine Done.step (fun t k => XS.iushr X102.here hx rfl (hb hby at_143) rfl k) ?_
  show Done p e below s _ _ _ (T102.setTop (mkF m 144 #[.val (.int p1), .val (.long q2), .second, .val (.long q3), .second, .val (.long q4), .second, .val (.long q5), .second, .val (.long q6), .second, .val (.ref b11), .val (.int x101), .val (.ref r102), .val (.int x105), .val (.long ee), .second, .unset, .unset, .unset, .unset, .unset] [(.int ((p1.toUInt32 >>> ((10 : Int32) &&& 31).toUInt32).toInt32))]))
  refine Done.step (fun t k => XS.iconst X102.here hx rfl (hb hby at_144) k) ?_
  show Done p e below s _ _ _ (T102.setTop (mkF m 145 #[.val (.int p1), .val (.long q2), .second, .val (.long q3), .second, .val (.long q4), .second, .val (.long q5), .second, .val (.long q6), .second, .val (.ref b11), .val (.int x101), .val (.ref r102), .val (.int x105), .val (.long ee), .second, .unset, .unset, .unset, .unset, .unset] [(.int (3 : Int32)), (.int ((p1.toUInt32 >>> ((10 : Int32) &&& 31).toUInt32).toInt32))]))
  refine Done.step (fun t k => XS.iand X102.here hx rfl (hb hby at_145) rfl k) ?_
  show Done p e below s _ _ _ (T102.setTop (mkF m 146 #[.val (.int p1), .val (.long q2), .second, .val (.long q3), .second, .val (.long q4), .second, .val (.long q5), .second, .val (.long q6), .second, .val (.ref b11), .val (.int x101), .val (.ref r102), .val (.int x105), .val (.long ee), .second, .unset, .unset, .unset, .unset, .unset] [(.int (((p1.toUInt32 >>> ((10 : Int32) &&& 31).toUInt32).toInt32) &&& (3 : Int32)))]))
  generalize dx106 : (((p1.toUInt32 >>> ((10 : Int32) &&& 31).toUInt32).toInt32) &&& (3 : Int32)) = x106
  show Done p e below s _ _ _ (T102.setTop (mkF m 146 #[.val (.int p1), .val (.long q2), .second, .val (.long q3), .second, .val (.long q4), .second, .val (.long q5), .second, .val (.long q6), .second, .val (.ref b11), .val (.int x101), .val (.ref r102), .val (.int x105), .val (.long ee), .second, .unset, .unset, .unset, .unset, .unset] [(.int x106)]))
  refine Done.step (fun t k => XS.istore X102.here hx rfl (hb hby at_146) rfl (l' := #[.val (.int p1), .val (.long q2), .second, .val (.long q3), .second, .val (.long q4), .second, .val (.long q5), .second, .val (.long q6), .second, .val (.ref b11), .val (.int x101), .val (.ref r102), .val (.int x105), .val (.long ee), .second, .val (.int x106), .unset, .unset, .unset, .unset]) rfl k) ?_
  show Done p e below s _ _ _ (T102.setTop (mkF m 148 #[.val (.int p1), .val (.long q2), .second, .val (.long q3), .second, .val (.long q4), .second, .val (.long q5), .second, .val (.long q6), .second, .val (.ref b11), .val (.int x101), .val (.ref r102), .val (.int x105), .val (.long ee), .second, .val (.int x106), .unset, .unset, .unset, .unset] []))
  refine Done.step (fun t k => XS.iload X102.here hx rfl (hb hby at_148) rfl k) ?_
  show Done p e below s _ _ _ (T102.setTop (mkF m 150 #[.val (.int p1), .val (.long q2), .second, .val (.long q3), .second, .val (.long q4), .second, .val (.long q5), .second, .val (.long q6), .second, .val (.ref b11), .val (.int x101), .val (.ref r102), .val (.int x105), .val (.long ee), .second, .val (.int x106), .unset, .unset, .unset, .unset] [(.int x106)]))
  by_cases c1 : x106 = (0 : Int32)
  · refine Done.step (fun t k => XS.ifNo X102.here hx rfl (hb hby at_150) rfl ((if0 _ _).trans (teq c1).2) k) ?_
    show Done p e below s _ _ _ (T102.setTop (mkF m 153 #[.val (.int p1), .val (.long q2), .second, .val (.long q3), .second, .val (.long q4), .second, .val (.long q5), .second, .val (.long q6), .second, .val (.ref b11), .val (.int x101), .val (.ref r102), .val (.int x105), .val (.long ee), .second, .val (.int x106), .unset, .unset, .unset, .unset] []))
    refine Done.step (fun t k => XS.lload X102.here hx rfl (hb hby at_153) rfl k) ?_
    show Done p e below s _ _ _ (T102.setTop (mkF m 155 #[.val (.int p1), .val (.long q2), .second, .val (.long q3), .second, .val (.long q4), .second, .val (.long q5), .second, .val (.long q6), .second, .val (.ref b11), .val (.int x101), .val (.ref r102), .val (.int x105), .val (.long ee), .second, .val (.int x106), .unset, .unset, .unset, .unset] [(.long q6)]))
    refine Done.step (fun t k => XS.lstore X102.here hx rfl (hb hby at_155) rfl (l' := #[.val (.int p1), .val (.long q2), .second, .val (.long q3), .second, .val (.long q4), .second, .val (.long q5), .second, .val (.long q6), .second, .val (.ref b11), .val (.int x101), .val (.ref r102), .val (.int x105), .val (.long ee), .second, .val (.int x106), .val (.long q6), .second, .unset, .unset]) rfl k) ?_
    show Done p e below s _ _ _ (T102.setTop (mkF m 157 #[.val (.int p1), .val (.long q2), .second, .val (.long q3), .second, .val (.long q4), .second, .val (.long q5), .second, .val (.long q6), .second, .val (.ref b11), .val (.int x101), .val (.ref r102), .val (.int x105), .val (.long ee), .second, .val (.int x106), .val (.long q6), .second, .unset, .unset] []))
    refine Done.step (fun t k => XS.goto X102.here hx rfl (pc0 := 157) (pc' := 194) rfl (hb hby at_157) (by decide) (by decide) k) ?_
    show Done p e below s _ _ _ (T102.setTop (mkF m 194 #[.val (.int p1), .val (.long q2), .second, .val (.long q3), .second, .val (.long q4), .second, .val (.long q5), .second, .val (.long q6), .second, .val (.ref b11), .val (.int x101), .val (.ref r102), .val (.int x105), .val (.long ee), .second, .val (.int x106), .val (.long q6), .second, .unset, .unset] []))
    exact blk194 p1 q2 q3 q4 q5 q6 b11 x101 r102 x105 ee x106 q6 y0 y1 y2 y3 X102 hx hZ hw hby hml hown hlk hret hnm N102 Zk102 rfl hy (own_n p1 x101 dx101) f104 x102 y102v
  · refine Done.step (fun t k => XS.ifYes X102.here hx rfl (pc0 := 150) (pc' := 160) rfl (hb hby at_150) rfl ((if0 _ _).trans (feq c1).2) (by decide) (by decide) k) ?_
    show Done p e below s _ _ _ (T102.setTop (mkF m 160 #[.val (.int p1), .val (.long q2), .second, .val (.long q3), .second, .val (.long q4), .second, .val (.long q5), .second, .val (.long q6), .second, .val (.ref b11), .val (.int x101), .val (.ref r102), .val (.int x105), .val (.long ee), .second, .val (.int x106), .unset, .unset, .unset, .unset] []))
    refine Done.step (fun t k => XS.iload X102.here hx rfl (hb hby at_160) rfl k) ?_
    show Done p e below s _ _ _ (T102.setTop (mkF m 162 #[.val (.int p1), .val (.long q2), .second, .val (.long q3), .second, .val (.long q4), .second, .val (.long q5), .second, .val (.long q6), .second, .val (.ref b11), .val (.int x101), .val (.ref r102), .val (.int x105), .val (.long ee), .second, .val (.int x106), .unset, .unset, .unset, .unset] [(.int x106)]))
    refine Done.step (fun t k => XS.iconst X102.here hx rfl (hb hby at_162) k) ?_
    show Done p e below s _ _ _ (T102.setTop (mkF m 163 #[.val (.int p1), .val (.long q2), .second, .val (.long q3), .second, .val (.long q4), .second, .val (.long q5), .second, .val (.long q6), .second, .val (.ref b11), .val (.int x101), .val (.ref r102), .val (.int x105), .val (.long ee), .second, .val (.int x106), .unset, .unset, .unset, .unset] [(.int (1 : Int32)), (.int x106)]))
    by_cases c2 : x106 = (1 : Int32)
    · refine Done.step (fun t k => XS.icmpNo X102.here hx rfl (hb hby at_163) rfl (teq c2).2 k) ?_
      show Done p e below s _ _ _ (T102.setTop (mkF m 166 #[.val (.int p1), .val (.long q2), .second, .val (.long q3), .second, .val (.long q4), .second, .val (.long q5), .second, .val (.long q6), .second, .val (.ref b11), .val (.int x101), .val (.ref r102), .val (.int x105), .val (.long ee), .second, .val (.int x106), .unset, .unset, .unset, .unset] []))
      refine Done.step (fun t k => XS.lload X102.here hx rfl (hb hby at_166) rfl k) ?_
      show Done p e below s _ _ _ (T102.setTop (mkF m 168 #[.val (.int p1), .val (.long q2), .second, .val (.long q3), .second, .val (.long q4), .second, .val (.long q5), .second, .val (.long q6), .second, .val (.ref b11), .val (.int x101), .val (.ref r102), .val (.int x105), .val (.long ee), .second, .val (.int x106), .unset, .unset, .unset, .unset] [(.long ee)]))
      refine Done.step (fun t k => XS.lstore X102.here hx rfl (hb hby at_168) rfl (l' := #[.val (.int p1), .val (.long q2), .second, .val (.long q3), .second, .val (.long q4), .second, .val (.long q5), .second, .val (.long q6), .second, .val (.ref b11), .val (.int x101), .val (.ref r102), .val (.int x105), .val (.long ee), .second, .val (.int x106), .val (.long ee), .second, .unset, .unset]) rfl k) ?_
      show Done p e below s _ _ _ (T102.setTop (mkF m 170 #[.val (.int p1), .val (.long q2), .second, .val (.long q3), .second, .val (.long q4), .second, .val (.long q5), .second, .val (.long q6), .second, .val (.ref b11), .val (.int x101), .val (.ref r102), .val (.int x105), .val (.long ee), .second, .val (.int x106), .val (.long ee), .second, .unset, .unset] []))
      refine Done.step (fun t k => XS.goto X102.here hx rfl (pc0 := 170) (pc' := 194) rfl (hb hby at_170) (by decide) (by decide) k) ?_
      show Done p e below s _ _ _ (T102.setTop (mkF m 194 #[.val (.int p1), .val (.long q2), .second, .val (.long q3), .second, .val (.long q4), .second, .val (.long q5), .second, .val (.long q6), .second, .val (.ref b11), .val (.int x101), .val (.ref r102), .val (.int x105), .val (.long ee), .second, .val (.int x106), .val (.long ee), .second, .unset, .unset] []))
      exact blk194 p1 q2 q3 q4 q5 q6 b11 x101 r102 x105 ee x106 ee y0 y1 y2 y3 X102 hx hZ hw hby hml hown hlk hret hnm N102 Zk102 rfl hy (own_n p1 x101 dx101) f104 x102 y102v
    · refine Done.step (fun t k => XS.icmpYes X102.here hx rfl (pc0 := 163) (pc' := 173) rfl (hb hby at_163) rfl (feq c2).2 (by decide) (by decide) k) ?_
      show Done p e below s _ _ _ (T102.setTop (mkF m 173 #[.val (.int p1), .val (.long q2), .second, .val (.long q3), .second, .val (.long q4), .second, .val (.long q5), .second, .val (.long q6), .second, .val (.ref b11), .val (.int x101), .val (.ref r102), .val (.int x105), .val (.long ee), .second, .val (.int x106), .unset, .unset, .unset, .unset] []))
      refine Done.step (fun t k => XS.iload X102.here hx rfl (hb hby at_173) rfl k) ?_
      show Done p e below s _ _ _ (T102.setTop (mkF m 175 #[.val (.int p1), .val (.long q2), .second, .val (.long q3), .second, .val (.long q4), .second, .val (.long q5), .second, .val (.long q6), .second, .val (.ref b11), .val (.int x101), .val (.ref r102), .val (.int x105), .val (.long ee), .second, .val (.int x106), .unset, .unset, .unset, .unset] [(.int x106)]))
      refine Done.step (fun t k => XS.iconst X102.here hx rfl (hb hby at_175) k) ?_
      show Done p e below s _ _ _ (T102.setTop (mkF m 176 #[.val (.int p1), .val (.long q2), .second, .val (.long q3), .second, .val (.long q4), .second, .val (.long q5), .second, .val (.long q6), .second, .val (.ref b11), .val (.int x101), .val (.ref r102), .val (.int x105), .val (.long ee), .second, .val (.int x106), .unset, .unset, .unset, .unset] [(.int (2 : Int32)), (.int x106)]))
      by_cases c3 : x106 = (2 : Int32)
      · refine Done.step (fun t k => XS.icmpNo X102.here hx rfl (hb hby at_176) rfl (teq c3).2 k) ?_
        show Done p e below s _ _ _ (T102.setTop (mkF m 179 #[.val (.int p1), .val (.long q2), .second, .val (.long q3), .second, .val (.long q4), .second, .val (.long q5), .second, .val (.long q6), .second, .val (.ref b11), .val (.int x101), .val (.ref r102), .val (.int x105), .val (.long ee), .second, .val (.int x106), .unset, .unset, .unset, .unset] []))
        refine Done.step (fun t k => XS.lload X102.here hx rfl (hb hby at_179) rfl k) ?_
        show Done p e below s _ _ _ (T102.setTop (mkF m 181 #[.val (.int p1), .val (.long q2), .second, .val (.long q3), .second, .val (.long q4), .second, .val (.long q5), .second, .val (.long q6), .second, .val (.ref b11), .val (.int x101), .val (.ref r102), .val (.int x105), .val (.long ee), .second, .val (.int x106), .unset, .unset, .unset, .unset] [(.long ee)]))
        refine Done.step (fun t k => XS.lconst X102.here hx rfl (hb hby at_181) k) ?_
        show Done p e below s _ _ _ (T102.setTop (mkF m 182 #[.val (.int p1), .val (.long q2), .second, .val (.long q3), .second, .val (.long q4), .second, .val (.long q5), .second, .val (.long q6), .second, .val (.ref b11), .val (.int x101), .val (.ref r102), .val (.int x105), .val (.long ee), .second, .val (.int x106), .unset, .unset, .unset, .unset] [(.long (1 : Int64)), (.long ee)]))
        refine Done.step (fun t k => XS.lsub X102.here hx rfl (hb hby at_182) rfl k) ?_
        show Done p e below s _ _ _ (T102.setTop (mkF m 183 #[.val (.int p1), .val (.long q2), .second, .val (.long q3), .second, .val (.long q4), .second, .val (.long q5), .second, .val (.long q6), .second, .val (.ref b11), .val (.int x101), .val (.ref r102), .val (.int x105), .val (.long ee), .second, .val (.int x106), .unset, .unset, .unset, .unset] [(.long (ee - (1 : Int64)))]))
        generalize dx107 : (ee - (1 : Int64)) = x107
        show Done p e below s _ _ _ (T102.setTop (mkF m 183 #[.val (.int p1), .val (.long q2), .second, .val (.long q3), .second, .val (.long q4), .second, .val (.long q5), .second, .val (.long q6), .second, .val (.ref b11), .val (.int x101), .val (.ref r102), .val (.int x105), .val (.long ee), .second, .val (.int x106), .unset, .unset, .unset, .unset] [(.long x107)]))
        refine Done.step (fun t k => XS.lstore X102.here hx rfl (hb hby at_183) rfl (l' := #[.val (.int p1), .val (.long q2), .second, .val (.long q3), .second, .val (.long q4), .second, .val (.long q5), .second, .val (.long q6), .second, .val (.ref b11), .val (.int x101), .val (.ref r102), .val (.int x105), .val (.long ee), .second, .val (.int x106), .val (.long x107), .second, .unset, .unset]) rfl k) ?_
        show Done p e below s _ _ _ (T102.setTop (mkF m 185 #[.val (.int p1), .val (.long q2), .second, .val (.long q3), .second, .val (.long q4), .second, .val (.long q5), .second, .val (.long q6), .second, .val (.ref b11), .val (.int x101), .val (.ref r102), .val (.int x105), .val (.long ee), .second, .val (.int x106), .val (.long x107), .second, .unset, .unset] []))
        refine Done.step (fun t k => XS.goto X102.here hx rfl (pc0 := 185) (pc' := 194) rfl (hb hby at_185) (by decide) (by decide) k) ?_
        show Done p e below s _ _ _ (T102.setTop (mkF m 194 #[.val (.int p1), .val (.long q2), .second, .val (.long q3), .second, .val (.long q4), .second, .val (.long q5), .second, .val (.long q6), .second, .val (.ref b11), .val (.int x101), .val (.ref r102), .val (.int x105), .val (.long ee), .second, .val (.int x106), .val (.long x107), .second, .unset, .unset] []))
        exact blk194 p1 q2 q3 q4 q5 q6 b11 x101 r102 x105 ee x106 x107 y0 y1 y2 y3 X102 hx hZ hw hby hml hown hlk hret hnm N102 Zk102 rfl hy (own_n p1 x101 dx101) f104 x102 y102v
      · refine Done.step (fun t k => XS.icmpYes X102.here hx rfl (pc0 := 176) (pc' := 188) rfl (hb hby at_176) rfl (feq c3).2 (by decide) (by decide) k) ?_
        show Done p e below s _ _ _ (T102.setTop (mkF m 188 #[.val (.int p1), .val (.long q2), .second, .val (.long q3), .second, .val (.long q4), .second, .val (.long q5), .second, .val (.long q6), .second, .val (.ref b11), .val (.int x101), .val (.ref r102), .val (.int x105), .val (.long ee), .second, .val (.int x106), .unset, .unset, .unset, .unset] []))
        refine Done.step (fun t k => XS.lload X102.here hx rfl (hb hby at_188) rfl k) ?_
        show Done p e below s _ _ _ (T102.setTop (mkF m 190 #[.val (.int p1), .val (.long q2), .second, .val (.long q3), .second, .val (.long q4), .second, .val (.long q5), .second, .val (.long q6), .second, .val (.ref b11), .val (.int x101), .val (.ref r102), .val (.int x105), .val (.long ee), .second, .val (.int x106), .unset, .unset, .unset, .unset] [(.long ee)]))
        refine Done.step (fun t k => XS.lconst X102.here hx rfl (hb hby at_190) k) ?_
        show Done p e below s _ _ _ (T102.setTop (mkF m 191 #[.val (.int p1), .val (.long q2), .second, .val (.long q3), .second, .val (.long q4), .second, .val (.long q5), .second, .val (.long q6), .second, .val (.ref b11), .val (.int x101), .val (.ref r102), .val (.int x105), .val (.long ee), .second, .val (.int x106), .unset, .unset, .unset, .unset] [(.long (1 : Int64)), (.long ee)]))
        refine Done.step (fun t k => XS.ladd X102.here hx rfl (hb hby at_191) rfl k) ?_
        show Done p e below s _ _ _ (T102.setTop (mkF m 192 #[.val (.int p1), .val (.long q2), .second, .val (.long q3), .second, .val (.long q4), .second, .val (.long q5), .second, .val (.long q6), .second, .val (.ref b11), .val (.int x101), .val (.ref r102), .val (.int x105), .val (.long ee), .second, .val (.int x106), .unset, .unset, .unset, .unset] [(.long (ee + (1 : Int64)))]))
        generalize dx108 : (ee + (1 : Int64)) = x108
        show Done p e below s _ _ _ (T102.setTop (mkF m 192 #[.val (.int p1), .val (.long q2), .second, .val (.long q3), .second, .val (.long q4), .second, .val (.long q5), .second, .val (.long q6), .second, .val (.ref b11), .val (.int x101), .val (.ref r102), .val (.int x105), .val (.long ee), .second, .val (.int x106), .unset, .unset, .unset, .unset] [(.long x108)]))
        refine Done.step (fun t k => XS.lstore X102.here hx rfl (hb hby at_192) rfl (l' := #[.val (.int p1), .val (.long q2), .second, .val (.long q3), .second, .val (.long q4), .second, .val (.long q5), .second, .val (.long q6), .second, .val (.ref b11), .val (.int x101), .val (.ref r102), .val (.int x105), .val (.long ee), .second, .val (.int x106), .val (.long x108), .second, .unset, .unset]) rfl k) ?_
        show Done p e below s _ _ _ (T102.setTop (mkF m 194 #[.val (.int p1), .val (.long q2), .second, .val (.long q3), .second, .val (.long q4), .second, .val (.long q5), .second, .val (.long q6), .second, .val (.ref b11), .val (.int x101), .val (.ref r102), .val (.int x105), .val (.long ee), .second, .val (.int x106), .val (.long x108), .second, .unset, .unset] []))
        exact blk194 p1 q2 q3 q4 q5 q6 b11 x101 r102 x105 ee x106 x108 y0 y1 y2 y3 X102 hx hZ hw hby hml hown hlk hret hnm N102 Zk102 rfl hy (own_n p1 x101 dx101) f104 x102 y102v
set_option maxRecDepth 65536 in
set_option maxHeartbeats 40000000 in
theorem blk91 {p : Program} {l : Launch} {e : Env} {s : State} {m : MethodId} {args : Array Value} {below : List Frame} {meth : Method} {c : Code} {T : State} {locs : List Loc} {Z : State} {a0 : Array Value} {h0 : Heap} {n0 : Nat} (p1 : Int32) (q2 q3 q4 q5 q6 : Int64) (b11 : Addr) (y0 y1 y2 y3 : Int64)
    (X0 : Stand p l e room_1 s m args below meth c T locs 1 4) (hx : p.tables.exec = Jvm.exec) (hZ : Z.Warmed39 s.vm) (hw : ∀ d ∈ tables_1, d.before a0 Z = true) (hby : c.code = code) (hml : c.maxLocals = 22) (hown : s.vm.findClass "com/example/upkeep/upkeep/core/PageChangesVersionAtPinLaw" = some m.cls) (hlk : meth.locks = false) (hret : meth.sig.returnType = ret) (hnm : meth.name = "law") (N0 : Fr n0 locs) (Z0 : n0 ≤ h0.size) (e0 : T.heap = h0) (hy : 0 ≤ y0.toInt ∧ y0.toInt ≤ y1.toInt ∧ y1.toInt ≤ y2.toInt ∧ y2.toInt ≤ y3.toInt) (A11 : Ax Z h0 b11 .long [(.long y0), (.long y1), (.long y2), (.long y3)]) (g11 : n0 ≤ b11) :
    Done p e below s (fun v h L => v = some (.int 1) ∧ Fr n0 L) room_1.cells room_1.slots (T.setTop (mkF m 91 #[.val (.int p1), .val (.long q2), .second, .val (.long q3), .second, .val (.long q4), .second, .val (.long q5), .second, .val (.long q6), .second, .val (.ref b11), .unset, .unset, .unset, .unset, .unset, .unset, .unset, .unset, .unset, .unset] [])) := by
  show Done p e below s _ _ _ (T.setTop (mkF m 91 #[.val (.int p1), .val (.long q2), .second, .val (.long q3), .second, .val (.long q4), .second, .val (.long q5), .second, .val (.long q6), .second, .val (.ref b11), .unset, .unset, .unset, .unset, .unset, .unset, .unset, .unset, .unset, .unset] []))
  refine Done.step (fun t k => XS.iloadN X0.here hx rfl (hb hby at_91) rfl k) ?_
  show Done p e below s _ _ _ (T.setTop (mkF m 92 #[.val (.int p1), .val (.long q2), .second, .val (.long q3), .second, .val (.long q4), .second, .val (.long q5), .second, .val (.long q6), .second, .val (.ref b11), .unset, .unset, .unset, .unset, .unset, .unset, .unset, .unset, .unset, .unset] [(.int p1)]))
  refine Done.step (fun t k => XS.bipush X0.here hx rfl (hb hby at_92) k) ?_
  show Done p e below s _ _ _ (T.setTop (mkF m 94 #[.val (.int p1), .val (.long q2), .second, .val (.long q3), .second, .val (.long q4), .second, .val (.long q5), .second, .val (.long q6), .second, .val (.ref b11), .unset, .unset, .unset, .unset, .unset, .unset, .unset, .unset, .unset, .unset] [(.int (7 : Int32)), (.int p1)]))
  refine Done.step (fun t k => XS.iushr X0.here hx rfl (hb hby at_94) rfl k) ?_
  show Done p e below s _ _ _ (T.setTop (mkF m 95 #[.val (.int p1), .val (.long q2), .second, .val (.long q3), .second, .val (.long q4), .second, .val (.long q5), .second, .val (.long q6), .second, .val (.ref b11), .unset, .unset, .unset, .unset, .unset, .unset, .unset, .unset, .unset, .unset] [(.int ((p1.toUInt32 >>> ((7 : Int32) &&& 31).toUInt32).toInt32))]))
  refine Done.step (fun t k => XS.iconst X0.here hx rfl (hb hby at_95) k) ?_
  show Done p e below s _ _ _ (T.setTop (mkF m 96 #[.val (.int p1), .val (.long q2), .second, .val (.long q3), .second, .val (.long q4), .second, .val (.long q5), .second, .val (.long q6), .second, .val (.ref b11), .unset, .unset, .unset, .unset, .unset, .unset, .unset, .unset, .unset, .unset] [(.int (1 : Int32)), (.int ((p1.toUInt32 >>> ((7 : Int32) &&& 31).toUInt32).toInt32))]))
  refine Done.step (fun t k => XS.iand X0.here hx rfl (hb hby at_96) rfl k) ?_
  show Done p e below s _ _ _ (T.setTop (mkF m 97 #[.val (.int p1), .val (.long q2), .second, .val (.long q3), .second, .val (.long q4), .second, .val (.long q5), .second, .val (.long q6), .second, .val (.ref b11), .unset, .unset, .unset, .unset, .unset, .unset, .unset, .unset, .unset, .unset] [(.int (((p1.toUInt32 >>> ((7 : Int32) &&& 31).toUInt32).toInt32) &&& (1 : Int32)))]))
  by_cases c1 : (((p1.toUInt32 >>> ((7 : Int32) &&& 31).toUInt32).toInt32) &&& (1 : Int32)) = (0 : Int32)
  · refine Done.step (fun t k => XS.ifYes X0.here hx rfl (pc0 := 97) (pc' := 108) rfl (hb hby at_97) rfl ((if0 _ _).trans (teq c1).1) (by decide) (by decide) k) ?_
    show Done p e below s _ _ _ (T.setTop (mkF m 108 #[.val (.int p1), .val (.long q2), .second, .val (.long q3), .second, .val (.long q4), .second, .val (.long q5), .second, .val (.long q6), .second, .val (.ref b11), .unset, .unset, .unset, .unset, .unset, .unset, .unset, .unset, .unset, .unset] []))
    exact blk108 p1 q2 q3 q4 q5 q6 b11 y0 y1 y2 y3 X0 hx hZ hw hby hml hown hlk hret hnm N0 Z0 e0 (by omega) A11
  · refine Done.step (fun t k => XS.ifNo X0.here hx rfl (hb hby at_97) rfl ((if0 _ _).trans (feq c1).1) k) ?_
    show Done p e below s _ _ _ (T.setTop (mkF m 100 #[.val (.int p1), .val (.long q2), .second, .val (.long q3), .second, .val (.long q4), .second, .val (.long q5), .second, .val (.long q6), .second, .val (.ref b11), .unset, .unset, .unset, .unset, .unset, .unset, .unset, .unset, .unset, .unset] []))
    refine Done.step (fun t k => XS.aload X0.here hx rfl (hb hby at_100) rfl rfl k) ?_
    show Done p e below s _ _ _ (T.setTop (mkF m 102 #[.val (.int p1), .val (.long q2), .second, .val (.long q3), .second, .val (.long q4), .second, .val (.long q5), .second, .val (.long q6), .second, .val (.ref b11), .unset, .unset, .unset, .unset, .unset, .unset, .unset, .unset, .unset, .unset] [(.ref b11)]))
    refine Done.step (fun t k => XS.iconst X0.here hx rfl (hb hby at_102) k) ?_
    show Done p e below s _ _ _ (T.setTop (mkF m 103 #[.val (.int p1), .val (.long q2), .second, .val (.long q3), .second, .val (.long q4), .second, .val (.long q5), .second, .val (.long q6), .second, .val (.ref b11), .unset, .unset, .unset, .unset, .unset, .unset, .unset, .unset, .unset, .unset] [(.int (3 : Int32)), (.ref b11)]))
    refine Done.step (fun t k => XS.aload X0.here hx rfl (hb hby at_103) rfl rfl k) ?_
    show Done p e below s _ _ _ (T.setTop (mkF m 105 #[.val (.int p1), .val (.long q2), .second, .val (.long q3), .second, .val (.long q4), .second, .val (.long q5), .second, .val (.long q6), .second, .val (.ref b11), .unset, .unset, .unset, .unset, .unset, .unset, .unset, .unset, .unset, .unset] [(.ref b11), (.int (3 : Int32)), (.ref b11)]))
    refine Done.step (fun t k => XS.iconst X0.here hx rfl (hb hby at_105) k) ?_
    show Done p e below s _ _ _ (T.setTop (mkF m 106 #[.val (.int p1), .val (.long q2), .second, .val (.long q3), .second, .val (.long q4), .second, .val (.long q5), .second, .val (.long q6), .second, .val (.ref b11), .unset, .unset, .unset, .unset, .unset, .unset, .unset, .unset, .unset, .unset] [(.int (2 : Int32)), (.ref b11), (.int (3 : Int32)), (.ref b11)]))
    refine Done.step (ldJ X0 hx hZ e0 A11 (j := (2 : Int32)) (x := (.long y2)) (by decide) rfl (g := (mkF m 106 #[.val (.int p1), .val (.long q2), .second, .val (.long q3), .second, .val (.long q4), .second, .val (.long q5), .second, .val (.long q6), .second, .val (.ref b11), .unset, .unset, .unset, .unset, .unset, .unset, .unset, .unset, .unset, .unset] [(.int (2 : Int32)), (.ref b11), (.int (3 : Int32)), (.ref b11)])) rfl rfl (hb hby at_106)) ?_
    show Done p e below s _ _ _ (T.setTop (mkF m 107 #[.val (.int p1), .val (.long q2), .second, .val (.long q3), .second, .val (.long q4), .second, .val (.long q5), .second, .val (.long q6), .second, .val (.ref b11), .unset, .unset, .unset, .unset, .unset, .unset, .unset, .unset, .unset, .unset] [(.long y2), (.int (3 : Int32)), (.ref b11)]))
    obtain ⟨T101, h101, X101, e101, W101, A101, st101⟩ := stoJ X0 hx hZ e0 A11 (j := (3 : Int32)) (by decide) (i := 3) (by decide) (Nat.le_of_ble_eq_true rfl) (g := (mkF m 107 #[.val (.int p1), .val (.long q2), .second, .val (.long q3), .second, .val (.long q4), .second, .val (.long q5), .second, .val (.long q6), .second, .val (.ref b11), .unset, .unset, .unset, .unset, .unset, .unset, .unset, .unset, .unset, .unset] [(.long y2), (.int (3 : Int32)), (.ref b11)])) rfl rfl (hb hby at_107)
    have f102 : Ax Z h101 b11 .long [(.long y0), (.long y1), (.long y2), (.long y2)] := A101
    have Z101 : n0 ≤ h101.size := Nat.le_trans Z0 (Keep.of_wr W101).1
    have N101 := Fr.snoc X101 N0 g11
    refine Done.step st101 ?_
    show Done p e below s _ _ _ (T101.setTop (mkF m 108 #[.val (.int p1), .val (.long q2), .second, .val (.long q3), .second, .val (.long q4), .second, .val (.long q5), .second, .val (.long q6), .second, .val (.ref b11), .unset, .unset, .unset, .unset, .unset, .unset, .unset, .unset, .unset, .unset] []))
    exact blk108 p1 q2 q3 q4 q5 q6 b11 y0 y1 y2 y2 X101 hx hZ hw hby hml hown hlk hret hnm N101 Z101 e101 (by omega) f102
theorem own_mask (x : Int64) : 0 ≤ (x &&& (9223372036854775807 : Int64)).toInt := by
  have := c_maskL x (9223372036854775807 : Int64) 63 (by decide) (by decide)
  omega
theorem own_or {u t a b : Int64} (h : (u = a ∧ t = b) ∨ (u = b ∧ t = a)) : (u.toInt = a.toInt ∧ t.toInt = b.toInt) ∨ (u.toInt = b.toInt ∧ t.toInt = a.toInt) := by
  rcases h with ⟨rfl, rfl⟩ | ⟨rfl, rfl⟩
  · exact Or.inl ⟨rfl, rfl⟩
  · exact Or.inr ⟨rfl, rfl⟩
theorem pn_0 : plainName "com/example/upkeep/upkeep/core/PageChangesVersionAtPinLaw" = true := by first | (simp [plainName, overriddenIn]; done) | decide +kernel
theorem ef_0 (m : MethodId) (p1 : Int32) (q2 : Int64) (q3 : Int64) (q4 : Int64) (q5 : Int64) (q6 : Int64) : entryFrame m #[(.int p1), (.long q2), (.long q3), (.long q4), (.long q5), (.long q6)] maxLocals = mkF m 0 #[.val (.int p1), .val (.long q2), .second, .val (.long q3), .second, .val (.long q4), .second, .val (.long q5), .second, .val (.long q6), .second, .unset, .unset, .unset, .unset, .unset, .unset, .unset, .unset, .unset, .unset, .unset] [] := by first | (simp [entryFrame, mkF, argsToLocals, Value.category, maxLocals]; done) | rfl
def Qrm0 (Z : State) (p1 : Int32) (q2 : Int64) (q3 : Int64) (q4 : Int64) (q5 : Int64) (q6 : Int64) (h0 : Heap) (n0 : Nat) : Option Value → Heap → List Loc → Prop := fun v h L => v = some (.int 1) ∧ Fr n0 L
set_option maxRecDepth 65536 in
set_option maxHeartbeats 40000000 in
theorem rm0 (l : Launch) (Z : State) (a0 : Array Value) (hw : ∀ d ∈ tables_1, d.before a0 Z = true) (ws : List Jvm.Cond) (p1 : Int32) (q2 : Int64) (q3 : Int64) (q4 : Int64) (q5 : Int64) (q6 : Int64) (h0 : Heap) (n0 : Nat) (Z0 : n0 ≤ h0.size) :
    MetFree l x (head1 (Jvm.Cond.code x code maxLocals ret :: ws) room_1) (fun a U => a = #[(.int p1), (.long q2), (.long q3), (.long q4), (.long q5), (.long q6)] ∧ Z.Warmed39 U.vm ∧ U.heap = h0) (fun _ _ _ _ _ => True) (fun _ U o U' => ∃ v L, o = .returned v ∧ Qrm0 Z p1 q2 q3 q4 q5 q6 h0 n0 v U'.heap L ∧ FrameEnd U o U' L room_1.cells room_1.slots) := by
  refine MetFree.of_bodySF (plainFor_of_name pn_0) hisR ?_
  intro p e s m args below meth c s₁ Bd hml0 hP hK
  obtain ⟨rfl, hZ, hh⟩ := hP
  have hx := Bd.exec
  have hby := Bd.bytes
  have hml : c.maxLocals = 22 := hml0
  have hown : s.vm.findClass "com/example/upkeep/upkeep/core/PageChangesVersionAtPinLaw" = some m.cls := findClass_of_methodNamed Bd.named
  have hnm := (name_of_methodNamed Bd.named Bd.method).1
  have hlk : meth.locks = false := BodyLoose.notSynchronized Bd
  have hret := Bd.returns
  have X0 : Stand p l e room_1 s m #[(.int p1), (.long q2), (.long q3), (.long q4), (.long q5), (.long q6)] below meth c s₁ [] 0 0 := Stand.of_body Bd
  have e0 : s₁.heap = h0 := by rw [← hh, Bd.state]; rfl
  have N0 := Fr.nil n0
  show Done p e below s (Qrm0 Z p1 q2 q3 q4 q5 q6 h0 n0) room_1.cells room_1.slots (s₁.setTop (entryFrame m #[(.int p1), (.long q2), (.long q3), (.long q4), (.long q5), (.long q6)] maxLocals))
  refine Done.step (fun t k => castTop (ef_0 m p1 q2 q3 q4 q5 q6) k) ?_
  show Done p e below s _ _ _ (s₁.setTop (mkF m 0 #[.val (.int p1), .val (.long q2), .second, .val (.long q3), .second, .val (.long q4), .second, .val (.long q5), .second, .val (.long q6), .second, .unset, .unset, .unset, .unset, .unset, .unset, .unset, .unset, .unset, .unset, .unset] []))
  refine Done.step (fun t k => XS.iconst X0.here hx rfl (hb hby at_0) k) ?_
  show Done p e below s _ _ _ (s₁.setTop (mkF m 1 #[.val (.int p1), .val (.long q2), .second, .val (.long q3), .second, .val (.long q4), .second, .val (.long q5), .second, .val (.long q6), .second, .unset, .unset, .unset, .unset, .unset, .unset, .unset, .unset, .unset, .unset, .unset] [(.int (4 : Int32))]))
  obtain ⟨T101, h101, k101, X101, e101, E101, A101, B101, st101⟩ := newPE X0 hx hZ (hw _ (List.mem_of_getElem? (i := 0) rfl)) e0 (g := (mkF m 1 #[.val (.int p1), .val (.long q2), .second, .val (.long q3), .second, .val (.long q4), .second, .val (.long q5), .second, .val (.long q6), .second, .unset, .unset, .unset, .unset, .unset, .unset, .unset, .unset, .unset, .unset, .unset] [(.int (4 : Int32))])) rfl (hb hby at_1) rfl (by decide) (cap := 4) (by decide) (by decide) (by decide) (by decide) (ad := "[J") (by decide)
  obtain ⟨b101, gq101⟩ : ∃ z, z = h0.size := ⟨_, rfl⟩
  rw [← gq101] at A101 B101 st101
  have g_b101 : n0 ≤ b101 := Nat.le_trans Z0 (Nat.le_of_eq gq101.symm)
  have Z101 : n0 ≤ h101.size := Nat.le_trans Z0 E101.1
  have f102 : Ax Z h101 b101 .long [(.long (0 : Int64)), (.long (0 : Int64)), (.long (0 : Int64)), (.long (0 : Int64))] := Ax.new (ty := .long) (i := 4) A101 (by decide)
  refine Done.step st101 ?_
  show Done p e below s _ _ _ (T101.setTop (mkF m 3 #[.val (.int p1), .val (.long q2), .second, .val (.long q3), .second, .val (.long q4), .second, .val (.long q5), .second, .val (.long q6), .second, .unset, .unset, .unset, .unset, .unset, .unset, .unset, .unset, .unset, .unset, .unset] [(.ref b101)]))
  refine Done.step (fun t k => XS.dup X101.here hx rfl (hb hby at_3) rfl rfl k) ?_
  show Done p e below s _ _ _ (T101.setTop (mkF m 4 #[.val (.int p1), .val (.long q2), .second, .val (.long q3), .second, .val (.long q4), .second, .val (.long q5), .second, .val (.long q6), .second, .unset, .unset, .unset, .unset, .unset, .unset, .unset, .unset, .unset, .unset, .unset] [(.ref b101), (.ref b101)]))
  refine Done.step (fun t k => XS.iconst X101.here hx rfl (hb hby at_4) k) ?_
  show Done p e below s _ _ _ (T101.setTop (mkF m 5 #[.val (.int p1), .val (.long q2), .second, .val (.long q3), .second, .val (.long q4), .second, .val (.long q5), .second, .val (.long q6), .second, .unset, .unset, .unset, .unset, .unset, .unset, .unset, .unset, .unset, .unset, .unset] [(.int (0 : Int32)), (.ref b101), (.ref b101)]))
  refine Done.step (fun t k => XS.lloadN X101.here hx rfl (hb hby at_5) rfl k) ?_
  show Done p e below s _ _ _ (T101.setTop (mkF m 6 #[.val (.int p1), .val (.long q2), .second, .val (.long q3), .second, .val (.long q4), .second, .val (.long q5), .second, .val (.long q6), .second, .unset, .unset, .unset, .unset, .unset, .unset, .unset, .unset, .unset, .unset, .unset] [(.long q2), (.int (0 : Int32)), (.ref b101), (.ref b101)]))
  refine Done.step (X101.ldc2Long hx hown (mvT hZ (hw _ (List.mem_of_getElem? (i := 1) rfl))) (g := (mkF m 6 #[.val (.int p1), .val (.long q2), .second, .val (.long q3), .second, .val (.long q4), .second, .val (.long q5), .second, .val (.long q6), .second, .unset, .unset, .unset, .unset, .unset, .unset, .unset, .unset, .unset, .unset, .unset] [(.long q2), (.int (0 : Int32)), (.ref b101), (.ref b101)])) rfl (hb hby at_6)) ?_
  show Done p e below s _ _ _ (T101.setTop (mkF m 9 #[.val (.int p1), .val (.long q2), .second, .val (.long q3), .second, .val (.long q4), .second, .val (.long q5), .second, .val (.long q6), .second, .unset, .unset, .unset, .unset, .unset, .unset, .unset, .unset, .unset, .unset, .unset] [(.long (9223372036854775807 : Int64)), (.long q2), (.int (0 : Int32)), (.ref b101), (.ref b101)]))
  refine Done.step (fun t k => XS.land X101.here hx rfl (hb hby at_9) rfl k) ?_
  show Done p e below s _ _ _ (T101.setTop (mkF m 10 #[.val (.int p1), .val (.long q2), .second, .val (.long q3), .second, .val (.long q4), .second, .val (.long q5), .second, .val (.long q6), .second, .unset, .unset, .unset, .unset, .unset, .unset, .unset, .unset, .unset, .unset, .unset] [(.long (q2 &&& (9223372036854775807 : Int64))), (.int (0 : Int32)), (.ref b101), (.ref b101)]))
  obtain ⟨T103, h103, X103, e103, W103, A103, st103⟩ := stoJ X101 hx hZ e101 f102 (j := (0 : Int32)) (by decide) (i := 0) (by decide) (Nat.le_of_ble_eq_true rfl) (g := (mkF m 10 #[.val (.int p1), .val (.long q2), .second, .val (.long q3), .second, .val (.long q4), .second, .val (.long q5), .second, .val (.long q6), .second, .unset, .unset, .unset, .unset, .unset, .unset, .unset, .unset, .unset, .unset, .unset] [(.long (q2 &&& (9223372036854775807 : Int64))), (.int (0 : Int32)), (.ref b101), (.ref b101)])) rfl rfl (hb hby at_10)
  have f104 : Exa Z h103 b101 "[J" := B101.wr W103
  have f105 : Ax Z h103 b101 .long [(.long (q2 &&& (9223372036854775807 : Int64))), (.long (0 : Int64)), (.long (0 : Int64)), (.long (0 : Int64))] := A103
  have Z103 : n0 ≤ h103.size := Nat.le_trans Z101 (Keep.of_wr W103).1
  have N103 := Fr.snoc X103 N0 g_b101
  refine Done.step st103 ?_
  show Done p e below s _ _ _ (T103.setTop (mkF m 11 #[.val (.int p1), .val (.long q2), .second, .val (.long q3), .second, .val (.long q4), .second, .val (.long q5), .second, .val (.long q6), .second, .unset, .unset, .unset, .unset, .unset, .unset, .unset, .unset, .unset, .unset, .unset] [(.ref b101)]))
  refine Done.step (fun t k => XS.dup X103.here hx rfl (hb hby at_11) rfl rfl k) ?_
  show Done p e below s _ _ _ (T103.setTop (mkF m 12 #[.val (.int p1), .val (.long q2), .second, .val (.long q3), .second, .val (.long q4), .second, .val (.long q5), .second, .val (.long q6), .second, .unset, .unset, .unset, .unset, .unset, .unset, .unset, .unset, .unset, .unset, .unset] [(.ref b101), (.ref b101)]))
  refine Done.step (fun t k => XS.iconst X103.here hx rfl (hb hby at_12) k) ?_
  show Done p e below s _ _ _ (T103.setTop (mkF m 13 #[.val (.int p1), .val (.long q2), .second, .val (.long q3), .second, .val (.long q4), .second, .val (.long q5), .second, .val (.long q6), .second, .unset, .unset, .unset, .unset, .unset, .unset, .unset, .unset, .unset, .unset, .unset] [(.int (1 : Int32)), (.ref b101), (.ref b101)]))
  refine Done.step (fun t k => XS.lloadN X103.here hx rfl (hb hby at_13) rfl k) ?_
  show Done p e below s _ _ _ (T103.setTop (mkF m 14 #[.val (.int p1), .val (.long q2), .second, .val (.long q3), .second, .val (.long q4), .second, .val (.long q5), .second, .val (.long q6), .second, .unset, .unset, .unset, .unset, .unset, .unset, .unset, .unset, .unset, .unset, .unset] [(.long q3), (.int (1 : Int32)), (.ref b101), (.ref b101)]))
  refine Done.step (X103.ldc2Long hx hown (mvT hZ (hw _ (List.mem_of_getElem? (i := 1) rfl))) (g := (mkF m 14 #[.val (.int p1), .val (.long q2), .second, .val (.long q3), .second, .val (.long q4), .second, .val (.long q5), .second, .val (.long q6), .second, .unset, .unset, .unset, .unset, .unset, .unset, .unset, .unset, .unset, .unset, .unset] [(.long q3), (.int (1 : Int32)), (.ref b101), (.ref b101)])) rfl (hb hby at_14)) ?_
  show Done p e below s _ _ _ (T103.setTop (mkF m 17 #[.val (.int p1), .val (.long q2), .second, .val (.long q3), .second, .val (.long q4), .second, .val (.long q5), .second, .val (.long q6), .second, .unset, .unset, .unset, .unset, .unset, .unset, .unset, .unset, .unset, .unset, .unset] [(.long (9223372036854775807 : Int64)), (.long q3), (.int (1 : Int32)), (.ref b101), (.ref b101)]))
  refine Done.step (fun t k => XS.land X103.here hx rfl (hb hby at_17) rfl k) ?_
  show Done p e below s _ _ _ (T103.setTop (mkF m 18 #[.val (.int p1), .val (.long q2), .second, .val (.long q3), .second, .val (.long q4), .second, .val (.long q5), .second, .val (.long q6), .second, .unset, .unset, .unset, .unset, .unset, .unset, .unset, .unset, .unset, .unset, .unset] [(.long (q3 &&& (9223372036854775807 : Int64))), (.int (1 : Int32)), (.ref b101), (.ref b101)]))
  obtain ⟨T106, h106, X106, e106, W106, A106, st106⟩ := stoJ X103 hx hZ e103 f105 (j := (1 : Int32)) (by decide) (i := 1) (by decide) (Nat.le_of_ble_eq_true rfl) (g := (mkF m 18 #[.val (.int p1), .val (.long q2), .second, .val (.long q3), .second, .val (.long q4), .second, .val (.long q5), .second, .val (.long q6), .second, .unset, .unset, .unset, .unset, .unset, .unset, .unset, .unset, .unset, .unset, .unset] [(.long (q3 &&& (9223372036854775807 : Int64))), (.int (1 : Int32)), (.ref b101), (.ref b101)])) rfl rfl (hb hby at_18)
  have f107 : Exa Z h106 b101 "[J" := f104.wr W106
  have f108 : Ax Z h106 b101 .long [(.long (q2 &&& (9223372036854775807 : Int64))), (.long (q3 &&& (9223372036854775807 : Int64))), (.long (0 : Int64)), (.long (0 : Int64))] := A106
  have Z106 : n0 ≤ h106.size := Nat.le_trans Z103 (Keep.of_wr W106).1
  have N106 := Fr.snoc X106 N103 g_b101
  refine Done.step st106 ?_
  show Done p e below s _ _ _ (T106.setTop (mkF m 19 #[.val (.int p1), .val (.long q2), .second, .val (.long q3), .second, .val (.long q4), .second, .val (.long q5), .second, .val (.long q6), .second, .unset, .unset, .unset, .unset, .unset, .unset, .unset, .unset, .unset, .unset, .unset] [(.ref b101)]))
  refine Done.step (fun t k => XS.dup X106.here hx rfl (hb hby at_19) rfl rfl k) ?_
  show Done p e below s _ _ _ (T106.setTop (mkF m 20 #[.val (.int p1), .val (.long q2), .second, .val (.long q3), .second, .val (.long q4), .second, .val (.long q5), .second, .val (.long q6), .second, .unset, .unset, .unset, .unset, .unset, .unset, .unset, .unset, .unset, .unset, .unset] [(.ref b101), (.ref b101)]))
  refine Done.step (fun t k => XS.iconst X106.here hx rfl (hb hby at_20) k) ?_
  show Done p e below s _ _ _ (T106.setTop (mkF m 21 #[.val (.int p1), .val (.long q2), .second, .val (.long q3), .second, .val (.long q4), .second, .val (.long q5), .second, .val (.long q6), .second, .unset, .unset, .unset, .unset, .unset, .unset, .unset, .unset, .unset, .unset, .unset] [(.int (2 : Int32)), (.ref b101), (.ref b101)]))
  refine Done.step (fun t k => XS.lload X106.here hx rfl (hb hby at_21) rfl k) ?_
  show Done p e below s _ _ _ (T106.setTop (mkF m 23 #[.val (.int p1), .val (.long q2), .second, .val (.long q3), .second, .val (.long q4), .second, .val (.long q5), .second, .val (.long q6), .second, .unset, .unset, .unset, .unset, .unset, .unset, .unset, .unset, .unset, .unset, .unset] [(.long q4), (.int (2 : Int32)), (.ref b101), (.ref b101)]))
  refine Done.step (X106.ldc2Long hx hown (mvT hZ (hw _ (List.mem_of_getElem? (i := 1) rfl))) (g := (mkF m 23 #[.val (.int p1), .val (.long q2), .second, .val (.long q3), .second, .val (.long q4), .second, .val (.long q5), .second, .val (.long q6), .second, .unset, .unset, .unset, .unset, .unset, .unset, .unset, .unset, .unset, .unset, .unset] [(.long q4), (.int (2 : Int32)), (.ref b101), (.ref b101)])) rfl (hb hby at_23)) ?_
  show Done p e below s _ _ _ (T106.setTop (mkF m 26 #[.val (.int p1), .val (.long q2), .second, .val (.long q3), .second, .val (.long q4), .second, .val (.long q5), .second, .val (.long q6), .second, .unset, .unset, .unset, .unset, .unset, .unset, .unset, .unset, .unset, .unset, .unset] [(.long (9223372036854775807 : Int64)), (.long q4), (.int (2 : Int32)), (.ref b101), (.ref b101)]))
  refine Done.step (fun t k => XS.land X106.here hx rfl (hb hby at_26) rfl k) ?_
  show Done p e below s _ _ _ (T106.setTop (mkF m 27 #[.val (.int p1), .val (.long q2), .second, .val (.long q3), .second, .val (.long q4), .second, .val (.long q5), .second, .val (.long q6), .second, .unset, .unset, .unset, .unset, .unset, .unset, .unset, .unset, .unset, .unset, .unset] [(.long (q4 &&& (9223372036854775807 : Int64))), (.int (2 : Int32)), (.ref b101), (.ref b101)]))
  obtain ⟨T109, h109, X109, e109, W109, A109, st109⟩ := stoJ X106 hx hZ e106 f108 (j := (2 : Int32)) (by decide) (i := 2) (by decide) (Nat.le_of_ble_eq_true rfl) (g := (mkF m 27 #[.val (.int p1), .val (.long q2), .second, .val (.long q3), .second, .val (.long q4), .second, .val (.long q5), .second, .val (.long q6), .second, .unset, .unset, .unset, .unset, .unset, .unset, .unset, .unset, .unset, .unset, .unset] [(.long (q4 &&& (9223372036854775807 : Int64))), (.int (2 : Int32)), (.ref b101), (.ref b101)])) rfl rfl (hb hby at_27)
  have f110 : Exa Z h109 b101 "[J" := f107.wr W109
  have f111 : Ax Z h109 b101 .long [(.long (q2 &&& (9223372036854775807 : Int64))), (.long (q3 &&& (9223372036854775807 : Int64))), (.long (q4 &&& (9223372036854775807 : Int64))), (.long (0 : Int64))] := A109
  have Z109 : n0 ≤ h109.size := Nat.le_trans Z106 (Keep.of_wr W109).1
  have N109 := Fr.snoc X109 N106 g_b101
  refine Done.step st109 ?_
  show Done p e below s _ _ _ (T109.setTop (mkF m 28 #[.val (.int p1), .val (.long q2), .second, .val (.long q3), .second, .val (.long q4), .second, .val (.long q5), .second, .val (.long q6), .second, .unset, .unset, .unset, .unset, .unset, .unset, .unset, .unset, .unset, .unset, .unset] [(.ref b101)]))
  refine Done.step (fun t k => XS.dup X109.here hx rfl (hb hby at_28) rfl rfl k) ?_
  show Done p e below s _ _ _ (T109.setTop (mkF m 29 #[.val (.int p1), .val (.long q2), .second, .val (.long q3), .second, .val (.long q4), .second, .val (.long q5), .second, .val (.long q6), .second, .unset, .unset, .unset, .unset, .unset, .unset, .unset, .unset, .unset, .unset, .unset] [(.ref b101), (.ref b101)]))
  refine Done.step (fun t k => XS.iconst X109.here hx rfl (hb hby at_29) k) ?_
  show Done p e below s _ _ _ (T109.setTop (mkF m 30 #[.val (.int p1), .val (.long q2), .second, .val (.long q3), .second, .val (.long q4), .second, .val (.long q5), .second, .val (.long q6), .second, .unset, .unset, .unset, .unset, .unset, .unset, .unset, .unset, .unset, .unset, .unset] [(.int (3 : Int32)), (.ref b101), (.ref b101)]))
  refine Done.step (fun t k => XS.lload X109.here hx rfl (hb hby at_30) rfl k) ?_
  show Done p e below s _ _ _ (T109.setTop (mkF m 32 #[.val (.int p1), .val (.long q2), .second, .val (.long q3), .second, .val (.long q4), .second, .val (.long q5), .second, .val (.long q6), .second, .unset, .unset, .unset, .unset, .unset, .unset, .unset, .unset, .unset, .unset, .unset] [(.long q5), (.int (3 : Int32)), (.ref b101), (.ref b101)]))
  refine Done.step (X109.ldc2Long hx hown (mvT hZ (hw _ (List.mem_of_getElem? (i := 1) rfl))) (g := (mkF m 32 #[.val (.int p1), .val (.long q2), .second, .val (.long q3), .second, .val (.long q4), .second, .val (.long q5), .second, .val (.long q6), .second, .unset, .unset, .unset, .unset, .unset, .unset, .unset, .unset, .unset, .unset, .unset] [(.long q5), (.int (3 : Int32)), (.ref b101), (.ref b101)])) rfl (hb hby at_32)) ?_
  show Done p e below s _ _ _ (T109.setTop (mkF m 35 #[.val (.int p1), .val (.long q2), .second, .val (.long q3), .second, .val (.long q4), .second, .val (.long q5), .second, .val (.long q6), .second, .unset, .unset, .unset, .unset, .unset, .unset, .unset, .unset, .unset, .unset, .unset] [(.long (9223372036854775807 : Int64)), (.long q5), (.int (3 : Int32)), (.ref b101), (.ref b101)]))
  refine Done.step (fun t k => XS.land X109.here hx rfl (hb hby at_35) rfl k) ?_
  show Done p e below s _ _ _ (T109.setTop (mkF m 36 #[.val (.int p1), .val (.long q2), .second, .val (.long q3), .second, .val (.long q4), .second, .val (.long q5), .second, .val (.long q6), .second, .unset, .unset, .unset, .unset, .unset, .unset, .unset, .unset, .unset, .unset, .unset] [(.long (q5 &&& (9223372036854775807 : Int64))), (.int (3 : Int32)), (.ref b101), (.ref b101)]))
  obtain ⟨T112, h112, X112, e112, W112, A112, st112⟩ := stoJ X109 hx hZ e109 f111 (j := (3 : Int32)) (by decide) (i := 3) (by decide) (Nat.le_of_ble_eq_true rfl) (g := (mkF m 36 #[.val (.int p1), .val (.long q2), .second, .val (.long q3), .second, .val (.long q4), .second, .val (.long q5), .second, .val (.long q6), .second, .unset, .unset, .unset, .unset, .unset, .unset, .unset, .unset, .unset, .unset, .unset] [(.long (q5 &&& (9223372036854775807 : Int64))), (.int (3 : Int32)), (.ref b101), (.ref b101)])) rfl rfl (hb hby at_36)
  have f113 : Exa Z h112 b101 "[J" := f110.wr W112
  have f114 : Ax Z h112 b101 .long [(.long (q2 &&& (9223372036854775807 : Int64))), (.long (q3 &&& (9223372036854775807 : Int64))), (.long (q4 &&& (9223372036854775807 : Int64))), (.long (q5 &&& (9223372036854775807 : Int64)))] := A112
  have Z112 : n0 ≤ h112.size := Nat.le_trans Z109 (Keep.of_wr W112).1
  have N112 := Fr.snoc X112 N109 g_b101
  refine Done.step st112 ?_
  show Done p e below s _ _ _ (T112.setTop (mkF m 37 #[.val (.int p1), .val (.long q2), .second, .val (.long q3), .second, .val (.long q4), .second, .val (.long q5), .second, .val (.long q6), .second, .unset, .unset, .unset, .unset, .unset, .unset, .unset, .unset, .unset, .unset, .unset] [(.ref b101)]))
  refine Done.step (fun t k => XS.astore X112.here hx rfl (hb hby at_37) rfl rfl (l' := #[.val (.int p1), .val (.long q2), .second, .val (.long q3), .second, .val (.long q4), .second, .val (.long q5), .second, .val (.long q6), .second, .val (.ref b101), .unset, .unset, .unset, .unset, .unset, .unset, .unset, .unset, .unset, .unset]) rfl k) ?_
  show Done p e below s _ _ _ (T112.setTop (mkF m 39 #[.val (.int p1), .val (.long q2), .second, .val (.long q3), .second, .val (.long q4), .second, .val (.long q5), .second, .val (.long q6), .second, .val (.ref b101), .unset, .unset, .unset, .unset, .unset, .unset, .unset, .unset, .unset, .unset] []))
  refine Done.step (fun t k => XS.aload X112.here hx rfl (hb hby at_39) rfl rfl k) ?_
  show Done p e below s _ _ _ (T112.setTop (mkF m 41 #[.val (.int p1), .val (.long q2), .second, .val (.long q3), .second, .val (.long q4), .second, .val (.long q5), .second, .val (.long q6), .second, .val (.ref b101), .unset, .unset, .unset, .unset, .unset, .unset, .unset, .unset, .unset, .unset] [(.ref b101)]))
  refine Done.step (fun t k => XS.iconst X112.here hx rfl (hb hby at_41) k) ?_
  show Done p e below s _ _ _ (T112.setTop (mkF m 42 #[.val (.int p1), .val (.long q2), .second, .val (.long q3), .second, .val (.long q4), .second, .val (.long q5), .second, .val (.long q6), .second, .val (.ref b101), .unset, .unset, .unset, .unset, .unset, .unset, .unset, .unset, .unset, .unset] [(.int (0 : Int32)), (.ref b101)]))
  refine Done.step (fun t k => XS.iconst X112.here hx rfl (hb hby at_42) k) ?_
  show Done p e below s _ _ _ (T112.setTop (mkF m 43 #[.val (.int p1), .val (.long q2), .second, .val (.long q3), .second, .val (.long q4), .second, .val (.long q5), .second, .val (.long q6), .second, .val (.ref b101), .unset, .unset, .unset, .unset, .unset, .unset, .unset, .unset, .unset, .unset] [(.int (1 : Int32)), (.int (0 : Int32)), (.ref b101)]))
  obtain ⟨v115, _, ⟨T115, L115, k115, n115⟩, -, X115, ⟨Lc115, hQ115, l115, y115, z115⟩, st115⟩ := Jvm.LawKit.callS X112 hx (y := (⟨"com/example/upkeep/upkeep/core/PageChangesVersionAtPinLaw", "order", "([JII)V"⟩ : MethodName)) hown (mvT hZ (hw _ (List.mem_of_getElem? (i := 2) rfl))) (mvT hZ (hw _ (List.mem_of_getElem? (i := 3) rfl))) (mvT hZ (hw _ (List.mem_of_getElem? (i := 4) rfl))) (mvT hZ (hw _ (List.mem_of_getElem? (i := 5) rfl))) (by decide) (backOf (W := 0) (rmo01 l Z a0 hw [] b101 (0 : Int32) (1 : Int32) (q2 &&& (9223372036854775807 : Int64)) (q3 &&& (9223372036854775807 : Int64)) (q4 &&& (9223372036854775807 : Int64)) (q5 &&& (9223372036854775807 : Int64)) h112 n0 Z112 f114 g_b101 rfl rfl) hZ (hw _ (List.mem_of_getElem? (i := 5) rfl)) (hw _ (List.mem_of_getElem? (i := 4) rfl)) (by decide) (by decide)) (g := (mkF m 43 #[.val (.int p1), .val (.long q2), .second, .val (.long q3), .second, .val (.long q4), .second, .val (.long q5), .second, .val (.long q6), .second, .val (.ref b101), .unset, .unset, .unset, .unset, .unset, .unset, .unset, .unset, .unset, .unset] [(.int (1 : Int32)), (.int (0 : Int32)), (.ref b101)])) rfl (by rw [hml]; rfl) (argsL := [(.ref b101), (.int (0 : Int32)), (.int (1 : Int32))]) (rest := []) (lenOf pd_3 rfl) rfl (by show 2 * 0 + _ ≤ _; exact Nat.le_of_eq rfl) (hb hby at_43) (fun _ _ => ⟨rfl, e112, (by decide : 1 + 0 ≤ _), (by decide : 4 + 0 ≤ _)⟩)
  dsimp only [Pt.U, Pt.locs, Pt.cells, Pt.slots] at X115 l115 y115 z115 st115 hQ115
  subst l115 y115 z115
  refine Done.step st115 ?_
  obtain ⟨rfl, N115q, K115q, u115, t115, x115, ol115, oc115⟩ := hQ115
  have N115 := Fr.app N112 N115q
  have f116 : Exa Z T115.heap b101 "[J" := f113.keep K115q
  have Zk115 : n0 ≤ T115.heap.size := Nat.le_trans Z112 K115q.1
  show Done p e below s _ _ _ (T115.setTop (mkF m 46 #[.val (.int p1), .val (.long q2), .second, .val (.long q3), .second, .val (.long q4), .second, .val (.long q5), .second, .val (.long q6), .second, .val (.ref b101), .unset, .unset, .unset, .unset, .unset, .unset, .unset, .unset, .unset, .unset] []))
  refine Done.step (fun t k => XS.aload X115.here hx rfl (hb hby at_46) rfl rfl k) ?_
  show Done p e below s _ _ _ (T115.setTop (mkF m 48 #[.val (.int p1), .val (.long q2), .second, .val (.long q3), .second, .val (.long q4), .second, .val (.long q5), .second, .val (.long q6), .second, .val (.ref b101), .unset, .unset, .unset, .unset, .unset, .unset, .unset, .unset, .unset, .unset] [(.ref b101)]))
  refine Done.step (fun t k => XS.iconst X115.here hx rfl (hb hby at_48) k) ?_
  show Done p e below s _ _ _ (T115.setTop (mkF m 49 #[.val (.int p1), .val (.long q2), .second, .val (.long q3), .second, .val (.long q4), .second, .val (.long q5), .second, .val (.long q6), .second, .val (.ref b101), .unset, .unset, .unset, .unset, .unset, .unset, .unset, .unset, .unset, .unset] [(.int (2 : Int32)), (.ref b101)]))
  refine Done.step (fun t k => XS.iconst X115.here hx rfl (hb hby at_49) k) ?_
  show Done p e below s _ _ _ (T115.setTop (mkF m 50 #[.val (.int p1), .val (.long q2), .second, .val (.long q3), .second, .val (.long q4), .second, .val (.long q5), .second, .val (.long q6), .second, .val (.ref b101), .unset, .unset, .unset, .unset, .unset, .unset, .unset, .unset, .unset, .unset] [(.int (3 : Int32)), (.int (2 : Int32)), (.ref b101)]))
  obtain ⟨v117, _, ⟨T117, L117, k117, n117⟩, -, X117, ⟨Lc117, hQ117, l117, y117, z117⟩, st117⟩ := Jvm.LawKit.callS X115 hx (y := (⟨"com/example/upkeep/upkeep/core/PageChangesVersionAtPinLaw", "order", "([JII)V"⟩ : MethodName)) hown (mvT hZ (hw _ (List.mem_of_getElem? (i := 2) rfl))) (mvT hZ (hw _ (List.mem_of_getElem? (i := 3) rfl))) (mvT hZ (hw _ (List.mem_of_getElem? (i := 4) rfl))) (mvT hZ (hw _ (List.mem_of_getElem? (i := 5) rfl))) (by decide) (backOf (W := 0) (rmo23 l Z a0 hw [] b101 (2 : Int32) (3 : Int32) u115 t115 (q4 &&& (9223372036854775807 : Int64)) (q5 &&& (9223372036854775807 : Int64)) T115.heap n0 Zk115 x115 g_b101 rfl rfl) hZ (hw _ (List.mem_of_getElem? (i := 5) rfl)) (hw _ (List.mem_of_getElem? (i := 4) rfl)) (by decide) (by decide)) (g := (mkF m 50 #[.val (.int p1), .val (.long q2), .second, .val (.long q3), .second, .val (.long q4), .second, .val (.long q5), .second, .val (.long q6), .second, .val (.ref b101), .unset, .unset, .unset, .unset, .unset, .unset, .unset, .unset, .unset, .unset] [(.int (3 : Int32)), (.int (2 : Int32)), (.ref b101)])) rfl (by rw [hml]; rfl) (argsL := [(.ref b101), (.int (2 : Int32)), (.int (3 : Int32))]) (rest := []) (lenOf pd_3 rfl) rfl (by show 2 * 0 + _ ≤ _; exact Nat.le_of_eq rfl) (hb hby at_50) (fun _ _ => ⟨rfl, rfl, (by decide : 1 + 0 ≤ _), (by decide : 4 + 0 ≤ _)⟩)
  dsimp only [Pt.U, Pt.locs, Pt.cells, Pt.slots] at X117 l117 y117 z117 st117 hQ117
  subst l117 y117 z117
  refine Done.step st117 ?_
  obtain ⟨rfl, N117q, K117q, u117, t117, x117, ol117, oc117⟩ := hQ117
  have N117 := Fr.app N115 N117q
  have f118 : Exa Z T117.heap b101 "[J" := f116.keep K117q
  have Zk117 : n0 ≤ T117.heap.size := Nat.le_trans Zk115 K117q.1
  show Done p e below s _ _ _ (T117.setTop (mkF m 53 #[.val (.int p1), .val (.long q2), .second, .val (.long q3), .second, .val (.long q4), .second, .val (.long q5), .second, .val (.long q6), .second, .val (.ref b101), .unset, .unset, .unset, .unset, .unset, .unset, .unset, .unset, .unset, .unset] []))
  refine Done.step (fun t k => XS.aload X117.here hx rfl (hb hby at_53) rfl rfl k) ?_
  show Done p e below s _ _ _ (T117.setTop (mkF m 55 #[.val (.int p1), .val (.long q2), .second, .val (.long q3), .second, .val (.long q4), .second, .val (.long q5), .second, .val (.long q6), .second, .val (.ref b101), .unset, .unset, .unset, .unset, .unset, .unset, .unset, .unset, .unset, .unset] [(.ref b101)]))
  refine Done.step (fun t k => XS.iconst X117.here hx rfl (hb hby at_55) k) ?_
  show Done p e below s _ _ _ (T117.setTop (mkF m 56 #[.val (.int p1), .val (.long q2), .second, .val (.long q3), .second, .val (.long q4), .second, .val (.long q5), .second, .val (.long q6), .second, .val (.ref b101), .unset, .unset, .unset, .unset, .unset, .unset, .unset, .unset, .unset, .unset] [(.int (0 : Int32)), (.ref b101)]))
  refine Done.step (fun t k => XS.iconst X117.here hx rfl (hb hby at_56) k) ?_
  show Done p e below s _ _ _ (T117.setTop (mkF m 57 #[.val (.int p1), .val (.long q2), .second, .val (.long q3), .second, .val (.long q4), .second, .val (.long q5), .second, .val (.long q6), .second, .val (.ref b101), .unset, .unset, .unset, .unset, .unset, .unset, .unset, .unset, .unset, .unset] [(.int (2 : Int32)), (.int (0 : Int32)), (.ref b101)]))
  obtain ⟨v119, _, ⟨T119, L119, k119, n119⟩, -, X119, ⟨Lc119, hQ119, l119, y119, z119⟩, st119⟩ := Jvm.LawKit.callS X117 hx (y := (⟨"com/example/upkeep/upkeep/core/PageChangesVersionAtPinLaw", "order", "([JII)V"⟩ : MethodName)) hown (mvT hZ (hw _ (List.mem_of_getElem? (i := 2) rfl))) (mvT hZ (hw _ (List.mem_of_getElem? (i := 3) rfl))) (mvT hZ (hw _ (List.mem_of_getElem? (i := 4) rfl))) (mvT hZ (hw _ (List.mem_of_getElem? (i := 5) rfl))) (by decide) (backOf (W := 0) (rmo02 l Z a0 hw [] b101 (0 : Int32) (2 : Int32) u115 t115 u117 t117 T117.heap n0 Zk117 x117 g_b101 rfl rfl) hZ (hw _ (List.mem_of_getElem? (i := 5) rfl)) (hw _ (List.mem_of_getElem? (i := 4) rfl)) (by decide) (by decide)) (g := (mkF m 57 #[.val (.int p1), .val (.long q2), .second, .val (.long q3), .second, .val (.long q4), .second, .val (.long q5), .second, .val (.long q6), .second, .val (.ref b101), .unset, .unset, .unset, .unset, .unset, .unset, .unset, .unset, .unset, .unset] [(.int (2 : Int32)), (.int (0 : Int32)), (.ref b101)])) rfl (by rw [hml]; rfl) (argsL := [(.ref b101), (.int (0 : Int32)), (.int (2 : Int32))]) (rest := []) (lenOf pd_3 rfl) rfl (by show 2 * 0 + _ ≤ _; exact Nat.le_of_eq rfl) (hb hby at_57) (fun _ _ => ⟨rfl, rfl, (by decide : 1 + 0 ≤ _), (by decide : 4 + 0 ≤ _)⟩)
  dsimp only [Pt.U, Pt.locs, Pt.cells, Pt.slots] at X119 l119 y119 z119 st119 hQ119
  subst l119 y119 z119
  refine Done.step st119 ?_
  obtain ⟨rfl, N119q, K119q, u119, t119, x119, ol119, oc119⟩ := hQ119
  have N119 := Fr.app N117 N119q
  have f120 : Exa Z T119.heap b101 "[J" := f118.keep K119q
  have Zk119 : n0 ≤ T119.heap.size := Nat.le_trans Zk117 K119q.1
  show Done p e below s _ _ _ (T119.setTop (mkF m 60 #[.val (.int p1), .val (.long q2), .second, .val (.long q3), .second, .val (.long q4), .second, .val (.long q5), .second, .val (.long q6), .second, .val (.ref b101), .unset, .unset, .unset, .unset, .unset, .unset, .unset, .unset, .unset, .unset] []))
  refine Done.step (fun t k => XS.aload X119.here hx rfl (hb hby at_60) rfl rfl k) ?_
  show Done p e below s _ _ _ (T119.setTop (mkF m 62 #[.val (.int p1), .val (.long q2), .second, .val (.long q3), .second, .val (.long q4), .second, .val (.long q5), .second, .val (.long q6), .second, .val (.ref b101), .unset, .unset, .unset, .unset, .unset, .unset, .unset, .unset, .unset, .unset] [(.ref b101)]))
  refine Done.step (fun t k => XS.iconst X119.here hx rfl (hb hby at_62) k) ?_
  show Done p e below s _ _ _ (T119.setTop (mkF m 63 #[.val (.int p1), .val (.long q2), .second, .val (.long q3), .second, .val (.long q4), .second, .val (.long q5), .second, .val (.long q6), .second, .val (.ref b101), .unset, .unset, .unset, .unset, .unset, .unset, .unset, .unset, .unset, .unset] [(.int (1 : Int32)), (.ref b101)]))
  refine Done.step (fun t k => XS.iconst X119.here hx rfl (hb hby at_63) k) ?_
  show Done p e below s _ _ _ (T119.setTop (mkF m 64 #[.val (.int p1), .val (.long q2), .second, .val (.long q3), .second, .val (.long q4), .second, .val (.long q5), .second, .val (.long q6), .second, .val (.ref b101), .unset, .unset, .unset, .unset, .unset, .unset, .unset, .unset, .unset, .unset] [(.int (3 : Int32)), (.int (1 : Int32)), (.ref b101)]))
  obtain ⟨v121, _, ⟨T121, L121, k121, n121⟩, -, X121, ⟨Lc121, hQ121, l121, y121, z121⟩, st121⟩ := Jvm.LawKit.callS X119 hx (y := (⟨"com/example/upkeep/upkeep/core/PageChangesVersionAtPinLaw", "order", "([JII)V"⟩ : MethodName)) hown (mvT hZ (hw _ (List.mem_of_getElem? (i := 2) rfl))) (mvT hZ (hw _ (List.mem_of_getElem? (i := 3) rfl))) (mvT hZ (hw _ (List.mem_of_getElem? (i := 4) rfl))) (mvT hZ (hw _ (List.mem_of_getElem? (i := 5) rfl))) (by decide) (backOf (W := 0) (rmo13 l Z a0 hw [] b101 (1 : Int32) (3 : Int32) u119 t115 t119 t117 T119.heap n0 Zk119 x119 g_b101 rfl rfl) hZ (hw _ (List.mem_of_getElem? (i := 5) rfl)) (hw _ (List.mem_of_getElem? (i := 4) rfl)) (by decide) (by decide)) (g := (mkF m 64 #[.val (.int p1), .val (.long q2), .second, .val (.long q3), .second, .val (.long q4), .second, .val (.long q5), .second, .val (.long q6), .second, .val (.ref b101), .unset, .unset, .unset, .unset, .unset, .unset, .unset, .unset, .unset, .unset] [(.int (3 : Int32)), (.int (1 : Int32)), (.ref b101)])) rfl (by rw [hml]; rfl) (argsL := [(.ref b101), (.int (1 : Int32)), (.int (3 : Int32))]) (rest := []) (lenOf pd_3 rfl) rfl (by show 2 * 0 + _ ≤ _; exact Nat.le_of_eq rfl) (hb hby at_64) (fun _ _ => ⟨rfl, rfl, (by decide : 1 + 0 ≤ _), (by decide : 4 + 0 ≤ _)⟩)
  dsimp only [Pt.U, Pt.locs, Pt.cells, Pt.slots] at X121 l121 y121 z121 st121 hQ121
  subst l121 y121 z121
  refine Done.step st121 ?_
  obtain ⟨rfl, N121q, K121q, u121, t121, x121, ol121, oc121⟩ := hQ121
  have N121 := Fr.app N119 N121q
  have f122 : Exa Z T121.heap b101 "[J" := f120.keep K121q
  have Zk121 : n0 ≤ T121.heap.size := Nat.le_trans Zk119 K121q.1
  show Done p e below s _ _ _ (T121.setTop (mkF m 67 #[.val (.int p1), .val (.long q2), .second, .val (.long q3), .second, .val (.long q4), .second, .val (.long q5), .second, .val (.long q6), .second, .val (.ref b101), .unset, .unset, .unset, .unset, .unset, .unset, .unset, .unset, .unset, .unset] []))
  refine Done.step (fun t k => XS.aload X121.here hx rfl (hb hby at_67) rfl rfl k) ?_
  show Done p e below s _ _ _ (T121.setTop (mkF m 69 #[.val (.int p1), .val (.long q2), .second, .val (.long q3), .second, .val (.long q4), .second, .val (.long q5), .second, .val (.long q6), .second, .val (.ref b101), .unset, .unset, .unset, .unset, .unset, .unset, .unset, .unset, .unset, .unset] [(.ref b101)]))
  refine Done.step (fun t k => XS.iconst X121.here hx rfl (hb hby at_69) k) ?_
  show Done p e below s _ _ _ (T121.setTop (mkF m 70 #[.val (.int p1), .val (.long q2), .second, .val (.long q3), .second, .val (.long q4), .second, .val (.long q5), .second, .val (.long q6), .second, .val (.ref b101), .unset, .unset, .unset, .unset, .unset, .unset, .unset, .unset, .unset, .unset] [(.int (1 : Int32)), (.ref b101)]))
  refine Done.step (fun t k => XS.iconst X121.here hx rfl (hb hby at_70) k) ?_
  show Done p e below s _ _ _ (T121.setTop (mkF m 71 #[.val (.int p1), .val (.long q2), .second, .val (.long q3), .second, .val (.long q4), .second, .val (.long q5), .second, .val (.long q6), .second, .val (.ref b101), .unset, .unset, .unset, .unset, .unset, .unset, .unset, .unset, .unset, .unset] [(.int (2 : Int32)), (.int (1 : Int32)), (.ref b101)]))
  obtain ⟨v123, _, ⟨T123, L123, k123, n123⟩, -, X123, ⟨Lc123, hQ123, l123, y123, z123⟩, st123⟩ := Jvm.LawKit.callS X121 hx (y := (⟨"com/example/upkeep/upkeep/core/PageChangesVersionAtPinLaw", "order", "([JII)V"⟩ : MethodName)) hown (mvT hZ (hw _ (List.mem_of_getElem? (i := 2) rfl))) (mvT hZ (hw _ (List.mem_of_getElem? (i := 3) rfl))) (mvT hZ (hw _ (List.mem_of_getElem? (i := 4) rfl))) (mvT hZ (hw _ (List.mem_of_getElem? (i := 5) rfl))) (by decide) (backOf (W := 0) (rmo12 l Z a0 hw [] b101 (1 : Int32) (2 : Int32) u119 u121 t119 t121 T121.heap n0 Zk121 x121 g_b101 rfl rfl) hZ (hw _ (List.mem_of_getElem? (i := 5) rfl)) (hw _ (List.mem_of_getElem? (i := 4) rfl)) (by decide) (by decide)) (g := (mkF m 71 #[.val (.int p1), .val (.long q2), .second, .val (.long q3), .second, .val (.long q4), .second, .val (.long q5), .second, .val (.long q6), .second, .val (.ref b101), .unset, .unset, .unset, .unset, .unset, .unset, .unset, .unset, .unset, .unset] [(.int (2 : Int32)), (.int (1 : Int32)), (.ref b101)])) rfl (by rw [hml]; rfl) (argsL := [(.ref b101), (.int (1 : Int32)), (.int (2 : Int32))]) (rest := []) (lenOf pd_3 rfl) rfl (by show 2 * 0 + _ ≤ _; exact Nat.le_of_eq rfl) (hb hby at_71) (fun _ _ => ⟨rfl, rfl, (by decide : 1 + 0 ≤ _), (by decide : 4 + 0 ≤ _)⟩)
  dsimp only [Pt.U, Pt.locs, Pt.cells, Pt.slots] at X123 l123 y123 z123 st123 hQ123
  subst l123 y123 z123
  refine Done.step st123 ?_
  obtain ⟨rfl, N123q, K123q, u123, t123, x123, ol123, oc123⟩ := hQ123
  have N123 := Fr.app N121 N123q
  have f124 : Exa Z T123.heap b101 "[J" := f122.keep K123q
  have Zk123 : n0 ≤ T123.heap.size := Nat.le_trans Zk121 K123q.1
  show Done p e below s _ _ _ (T123.setTop (mkF m 74 #[.val (.int p1), .val (.long q2), .second, .val (.long q3), .second, .val (.long q4), .second, .val (.long q5), .second, .val (.long q6), .second, .val (.ref b101), .unset, .unset, .unset, .unset, .unset, .unset, .unset, .unset, .unset, .unset] []))
  have mk2 := own_mask q2
  have mk3 := own_mask q3
  have mk4 := own_mask q4
  have mk5 := own_mask q5
  have oi115 := own_or oc115
  have oi117 := own_or oc117
  have oi119 := own_or oc119
  have oi121 := own_or oc121
  have oi123 := own_or oc123
  have hsrt : 0 ≤ u119.toInt ∧ u119.toInt ≤ u123.toInt ∧ u123.toInt ≤ t123.toInt ∧ t123.toInt ≤ t121.toInt := by omega
  refine Done.step (fun t k => XS.iloadN X123.here hx rfl (hb hby at_74) rfl k) ?_
  show Done p e below s _ _ _ (T123.setTop (mkF m 75 #[.val (.int p1), .val (.long q2), .second, .val (.long q3), .second, .val (.long q4), .second, .val (.long q5), .second, .val (.long q6), .second, .val (.ref b101), .unset, .unset, .unset, .unset, .unset, .unset, .unset, .unset, .unset, .unset] [(.int p1)]))
  refine Done.step (fun t k => XS.bipush X123.here hx rfl (hb hby at_75) k) ?_
  show Done p e below s _ _ _ (T123.setTop (mkF m 77 #[.val (.int p1), .val (.long q2), .second, .val (.long q3), .second, .val (.long q4), .second, .val (.long q5), .second, .val (.long q6), .second, .val (.ref b101), .unset, .unset, .unset, .unset, .unset, .unset, .unset, .unset, .unset, .unset] [(.int (6 : Int32)), (.int p1)]))
  refine Done.step (fun t k => XS.iushr X123.here hx rfl (hb hby at_77) rfl k) ?_
  show Done p e below s _ _ _ (T123.setTop (mkF m 78 #[.val (.int p1), .val (.long q2), .second, .val (.long q3), .second, .val (.long q4), .second, .val (.long q5), .second, .val (.long q6), .second, .val (.ref b101), .unset, .unset, .unset, .unset, .unset, .unset, .unset, .unset, .unset, .unset] [(.int ((p1.toUInt32 >>> ((6 : Int32) &&& 31).toUInt32).toInt32))]))
  refine Done.step (fun t k => XS.iconst X123.here hx rfl (hb hby at_78) k) ?_
  show Done p e below s _ _ _ (T123.setTop (mkF m 79 #[.val (.int p1), .val (.long q2), .second, .val (.long q3), .second, .val (.long q4), .second, .val (.long q5), .second, .val (.long q6), .second, .val (.ref b101), .unset, .unset, .unset, .unset, .unset, .unset, .unset, .unset, .unset, .unset] [(.int (1 : Int32)), (.int ((p1.toUInt32 >>> ((6 : Int32) &&& 31).toUInt32).toInt32))]))
  refine Done.step (fun t k => XS.iand X123.here hx rfl (hb hby at_79) rfl k) ?_
  show Done p e below s _ _ _ (T123.setTop (mkF m 80 #[.val (.int p1), .val (.long q2), .second, .val (.long q3), .second, .val (.long q4), .second, .val (.long q5), .second, .val (.long q6), .second, .val (.ref b101), .unset, .unset, .unset, .unset, .unset, .unset, .unset, .unset, .unset, .unset] [(.int (((p1.toUInt32 >>> ((6 : Int32) &&& 31).toUInt32).toInt32) &&& (1 : Int32)))]))
  by_cases c1 : (((p1.toUInt32 >>> ((6 : Int32) &&& 31).toUInt32).toInt32) &&& (1 : Int32)) = (0 : Int32)
  · refine Done.step (fun t k => XS.ifYes X123.here hx rfl (pc0 := 80) (pc' := 91) rfl (hb hby at_80) rfl ((if0 _ _).trans (teq c1).1) (by decide) (by decide) k) ?_
    show Done p e below s _ _ _ (T123.setTop (mkF m 91 #[.val (.int p1), .val (.long q2), .second, .val (.long q3), .second, .val (.long q4), .second, .val (.long q5), .second, .val (.long q6), .second, .val (.ref b101), .unset, .unset, .unset, .unset, .unset, .unset, .unset, .unset, .unset, .unset] []))
    exact blk91 p1 q2 q3 q4 q5 q6 b101 u119 u123 t123 t121 X123 hx hZ hw hby hml hown hlk hret hnm N123 Zk123 rfl (by omega) x123 g_b101
  · refine Done.step (fun t k => XS.ifNo X123.here hx rfl (hb hby at_80) rfl ((if0 _ _).trans (feq c1).1) k) ?_
    show Done p e below s _ _ _ (T123.setTop (mkF m 83 #[.val (.int p1), .val (.long q2), .second, .val (.long q3), .second, .val (.long q4), .second, .val (.long q5), .second, .val (.long q6), .second, .val (.ref b101), .unset, .unset, .unset, .unset, .unset, .unset, .unset, .unset, .unset, .unset] []))
    refine Done.step (fun t k => XS.aload X123.here hx rfl (hb hby at_83) rfl rfl k) ?_
    show Done p e below s _ _ _ (T123.setTop (mkF m 85 #[.val (.int p1), .val (.long q2), .second, .val (.long q3), .second, .val (.long q4), .second, .val (.long q5), .second, .val (.long q6), .second, .val (.ref b101), .unset, .unset, .unset, .unset, .unset, .unset, .unset, .unset, .unset, .unset] [(.ref b101)]))
    refine Done.step (fun t k => XS.iconst X123.here hx rfl (hb hby at_85) k) ?_
    show Done p e below s _ _ _ (T123.setTop (mkF m 86 #[.val (.int p1), .val (.long q2), .second, .val (.long q3), .second, .val (.long q4), .second, .val (.long q5), .second, .val (.long q6), .second, .val (.ref b101), .unset, .unset, .unset, .unset, .unset, .unset, .unset, .unset, .unset, .unset] [(.int (1 : Int32)), (.ref b101)]))
    refine Done.step (fun t k => XS.aload X123.here hx rfl (hb hby at_86) rfl rfl k) ?_
    show Done p e below s _ _ _ (T123.setTop (mkF m 88 #[.val (.int p1), .val (.long q2), .second, .val (.long q3), .second, .val (.long q4), .second, .val (.long q5), .second, .val (.long q6), .second, .val (.ref b101), .unset, .unset, .unset, .unset, .unset, .unset, .unset, .unset, .unset, .unset] [(.ref b101), (.int (1 : Int32)), (.ref b101)]))
    refine Done.step (fun t k => XS.iconst X123.here hx rfl (hb hby at_88) k) ?_
    show Done p e below s _ _ _ (T123.setTop (mkF m 89 #[.val (.int p1), .val (.long q2), .second, .val (.long q3), .second, .val (.long q4), .second, .val (.long q5), .second, .val (.long q6), .second, .val (.ref b101), .unset, .unset, .unset, .unset, .unset, .unset, .unset, .unset, .unset, .unset] [(.int (0 : Int32)), (.ref b101), (.int (1 : Int32)), (.ref b101)]))
    refine Done.step (ldJ X123 hx hZ rfl x123 (j := (0 : Int32)) (x := (.long u119)) (by decide) rfl (g := (mkF m 89 #[.val (.int p1), .val (.long q2), .second, .val (.long q3), .second, .val (.long q4), .second, .val (.long q5), .second, .val (.long q6), .second, .val (.ref b101), .unset, .unset, .unset, .unset, .unset, .unset, .unset, .unset, .unset, .unset] [(.int (0 : Int32)), (.ref b101), (.int (1 : Int32)), (.ref b101)])) rfl rfl (hb hby at_89)) ?_
    show Done p e below s _ _ _ (T123.setTop (mkF m 90 #[.val (.int p1), .val (.long q2), .second, .val (.long q3), .second, .val (.long q4), .second, .val (.long q5), .second, .val (.long q6), .second, .val (.ref b101), .unset, .unset, .unset, .unset, .unset, .unset, .unset, .unset, .unset, .unset] [(.long u119), (.int (1 : Int32)), (.ref b101)]))
    obtain ⟨T125, h125, X125, e125, W125, A125, st125⟩ := stoJ X123 hx hZ rfl x123 (j := (1 : Int32)) (by decide) (i := 1) (by decide) (Nat.le_of_ble_eq_true rfl) (g := (mkF m 90 #[.val (.int p1), .val (.long q2), .second, .val (.long q3), .second, .val (.long q4), .second, .val (.long q5), .second, .val (.long q6), .second, .val (.ref b101), .unset, .unset, .unset, .unset, .unset, .unset, .unset, .unset, .unset, .unset] [(.long u119), (.int (1 : Int32)), (.ref b101)])) rfl rfl (hb hby at_90)
    have f126 : Exa Z h125 b101 "[J" := f124.wr W125
    have f127 : Ax Z h125 b101 .long [(.long u119), (.long u119), (.long t123), (.long t121)] := A125
    have Z125 : n0 ≤ h125.size := Nat.le_trans Zk123 (Keep.of_wr W125).1
    have N125 := Fr.snoc X125 N123 g_b101
    refine Done.step st125 ?_
    show Done p e below s _ _ _ (T125.setTop (mkF m 91 #[.val (.int p1), .val (.long q2), .second, .val (.long q3), .second, .val (.long q4), .second, .val (.long q5), .second, .val (.long q6), .second, .val (.ref b101), .unset, .unset, .unset, .unset, .unset, .unset, .unset, .unset, .unset, .unset] []))
    exact blk91 p1 q2 q3 q4 q5 q6 b101 u119 u119 t123 t121 X125 hx hZ hw hby hml hown hlk hret hnm N125 Z125 e125 (by omega) f127 g_b101
set_option maxRecDepth 65536 in
set_option maxHeartbeats 40000000 in
theorem comes_1 {Post : Tables → Env → Array Value → State → Outcome → State → Prop} (hpost : ∀ tb e args s v u, (limb_1_1.after args s (.returned v) u = true ∧ limb_1_2.after args s (.returned v) u = true ∧ True) → FrameEnd s (.returned v) u (Jvm.fieldLocs frame_1_writes args s ++ Jvm.arrayLocs frame_1_arrays args s ++ Jvm.staticLocs frame_1_statics s) 16 128 → Post tb e args s (.returned v) u) :
    ArmFor flags0 classFile x code maxLocals ret World_1 tables_1 room_1 Calls_1 rest_1 Pre_1 Post := by
  intro l hfl _ _ p e ha hc hk s m args below hf hA hF happ hP
  obtain ⟨hcalls, hrest, hpre⟩ := hP
  obtain ⟨-, -, -, hnamed, -, -, -, hat⟩ := (Spec.applies_iff hf).mp happ
  obtain ⟨hg, hn⟩ := and_e (Cond.before_iff.mp (show (Jvm.Cond.and given_1 narrow_1).before args s = true from hpre))
  obtain ⟨hcnt, g0⟩ := and_e hg
  obtain ⟨u0, g1⟩ := and_e g0
  obtain ⟨u1, g2⟩ := and_e g1
  obtain ⟨u2, g3⟩ := and_e g2
  obtain ⟨u3, g4⟩ := and_e g3
  obtain ⟨u4, g5⟩ := and_e g4
  have u5 := g5
  obtain ⟨w0, w1, w2, w3, w4, w5, rfl⟩ : ∃ w0 w1 w2 w3 w4 w5 : Value, args = #[w0, w1, w2, w3, w4, w5] := by
    have hs : args.size = 6 := by simpa [Cond.value, given_1] using hcnt
    obtain ⟨L⟩ := args
    match L, hs with
    | [w0, w1, w2, w3, w4, w5], _ => exact ⟨w0, w1, w2, w3, w4, w5, rfl⟩
  have hw := fun d (hd : d ∈ tables_1) => atoms_spec (ws := Jvm.Cond.code x code maxLocals ret :: tables_1) hat d (List.mem_cons_of_mem _ hd)
  have hfit : Fit s := fun {y c} hc i hi => by
    obtain ⟨ha, rfl⟩ := Array.getElem?_eq_some_iff.mp hc
    have q := List.all_eq_true.mp ((Array.all_eq_true_iff_forall_mem.mp hF) _ (Array.getElem_mem ha)) i (List.mem_range.mpr hi)
    simpa [Array.getElem?_eq_getElem hi] using q
  obtain ⟨i0, ei0⟩ := is_v u0
  obtain rfl : w0 = (.int i0) := Option.some.inj ei0
  obtain ⟨i1, ei1⟩ := isL_v u1
  obtain rfl : w1 = (.long i1) := Option.some.inj ei1
  obtain ⟨i2, ei2⟩ := isL_v u2
  obtain rfl : w2 = (.long i2) := Option.some.inj ei2
  obtain ⟨i3, ei3⟩ := isL_v u3
  obtain rfl : w3 = (.long i3) := Option.some.inj ei3
  obtain ⟨i4, ei4⟩ := isL_v u4
  obtain rfl : w4 = (.long i4) := Option.some.inj ei4
  obtain ⟨i5, ei5⟩ := isL_v u5
  obtain rfl : w5 = (.long i5) := Option.some.inj ei5
  obtain ⟨n, o, h1, h2, h3, _, L, rfl, ⟨rfl, N⟩, hq⟩ := rm0 l s _ hw tables_1 i0 i1 i2 i3 i4 i5 s.heap s.heap.size (Nat.le_refl _) p e ha hc hk s m _ below hf ((Spec.applies_iff_loose hf).mp happ).1 ⟨rfl, State.Warmed39.refl s, rfl⟩ trivial
  refine ⟨n, _, h1, h2, h3, hpost _ _ _ _ _ _ ⟨Cond.after_iff.mpr rfl, Cond.after_iff.mpr (eq_i res_at (Term.int_eval (1)) rfl), trivial⟩ ⟨hq.1, hq.2.1, (hq.2.2.sift fun y hy => Or.inr (N y hy)).mono (by decide) (by decide)⟩⟩
theorem main_1_1 : Claimed_1_1 := comes_1 fun _ _ _ _ _ _ h hF => ⟨h.1, hF⟩
theorem main_1_2 : Claimed_1_2 := comes_1 fun _ _ _ _ _ _ h hF => ⟨h.2.1, hF⟩
end Jvm.Pilot.@@N@@
namespace Jvm.Pilot.@@N@@
open Jvm Jvm.ClassFile Sem Op Lib Jvm.Free Jvm.Stand Jvm.Pilot.@@N@@.Jvm.D
/-! MADE BY PROGRAM (witnessworld.py) out of the Statement's table words and the real class files: 11 classes; the members and pool entries that the words name. The judged class is class 1, her method 1. -/
namespace start1
open Jvm.ClassFile
def u (s : String) : CpInfo := .utf8 (stringToUtf16 s)
/-- a pool by its gaps: so many unusable entries, then the entry; so many at the end -/
def gap : Nat → List CpInfo → List CpInfo
  | 0, r => r
  | n + 1, r => .unusable :: gap n r
def poolList (es : List (Nat × CpInfo)) (last : Nat) : List CpInfo := es.foldr (fun e r => gap e.1 (e.2 :: r)) (gap last [])
def pool (es : List (Nat × CpInfo)) (last : Nat) : Array CpInfo := ⟨poolList es last⟩
def fileOf (pool : Array CpInfo) (this : Nat) (attrs : Array Attribute := #[]) (ms : Array MethodInfo := #[]) (fl : Nat := 33) (sup : Nat := 0) (ifs : Array Nat := #[]) (fds : Array FieldInfo := #[]) : ClassFile where
  minorVersion := 0
  majorVersion := 65
  constantPool := pool
  accessFlags := fl
  thisClass := this
  superClass := sup
  interfaces := ifs
  fields := fds
  methods := ms
  attributes := attrs
def plain (name : String) (sup : Option ClassId) : Class where
  name := name
  kind := .ordinary
  loader := none
  accessFlags := 33
  super := sup
  interfaces := #[]
  cf := none
  fields := #[]
  methods := #[]
  instanceTypes := #[]
  staticTypes := #[]
  resolved := #[]
  callSites := []
  init := .initialized
  statics := none
  mirror := none

def pool0 : Array CpInfo := pool [(5, u "<init>"), (0, u "()V"), (1, .class_ 10), (1, u "java/lang/Object"), (85, u "clone"), (0, u "()Ljava/lang/Object;")] 26

def k0c0 : Code := { maxStack := 0, maxLocals := 1, code := object_method_1_code, exceptionTable := #[], attributes := #[] }
def k0m0 : Method := { name := "<init>", desc := "()V", sig := { parameters := [], returnType := none }, accessFlags := 1, code := some k0c0 }
def k0m1 : Method := { name := "clone", desc := "()Ljava/lang/Object;", sig := { parameters := [], returnType := some (.object "java/lang/Object") }, accessFlags := 260, code := none }
/-- java/lang/Object -/
def k0 : Class := { plain "java/lang/Object" none with
  accessFlags := 33
  interfaces := #[]
  cf := some (fileOf pool0 8 #[] #[{ accessFlags := 1, nameIndex := 5, descriptorIndex := 6, attributes := #[] }, { accessFlags := 260, nameIndex := 96, descriptorIndex := 97, attributes := #[] }] 33 0 #[] #[])
  fields := #[]
  methods := #[k0m0, k0m1]
  instanceTypes := #[]
  staticTypes := #[]
  resolved := Array.replicate 124 none
  statics := none }

def pool1 : Array CpInfo := pool [(2, .class_ 4), (1, u "java/lang/Object"), (0, u "<init>"), (0, u "()V"), (2, .long 9223372036854775807), (1, .methodref 12 13), (0, .class_ 14), (0, .nameAndType 15 16), (0, u "com/example/upkeep/upkeep/core/PageChangesVersionAtPinLaw"), (0, u "order"), (0, u "([JII)V"), (0, .methodref 12 18), (0, .nameAndType 19 20), (0, u "prefix"), (0, u "([JI)[J"), (0, .class_ 22), (0, u "com/example/upkeep/upkeep/core/PageChanges"), (0, .methodref 21 24), (0, .nameAndType 5 25), (0, u "([J)V"), (0, .methodref 21 27), (0, .nameAndType 28 29), (0, u "versionAt"), (0, u "(J)I"), (2, u "law"), (0, u "(IJJJJJ)Z")] 5

def k1m0 : Method := { name := "<init>", desc := "()V", sig := { parameters := [], returnType := none }, accessFlags := 1, code := none }
def k1c1 : Code := { maxStack := 7, maxLocals := 22, code := code, exceptionTable := #[], attributes := #[] }
def k1m1 : Method := { name := "law", desc := "(IJJJJJ)Z", sig := { parameters := [.int, .long, .long, .long, .long, .long], returnType := some .boolean }, accessFlags := 9, code := some k1c1 }
def k1c2 : Code := { maxStack := 4, maxLocals := 5, code := method_3_code, exceptionTable := #[], attributes := #[] }
def k1m2 : Method := { name := "order", desc := "([JII)V", sig := { parameters := [(.array .long), .int, .int], returnType := none }, accessFlags := 10, code := some k1c2 }
def k1c3 : Code := { maxStack := 5, maxLocals := 2, code := method_4_code, exceptionTable := #[], attributes := #[] }
def k1m3 : Method := { name := "prefix", desc := "([JI)[J", sig := { parameters := [(.array .long), .int], returnType := some (.array .long) }, accessFlags := 10, code := some k1c3 }
/-- com/example/upkeep/upkeep/core/PageChangesVersionAtPinLaw -/
def k1 : Class := { plain "com/example/upkeep/upkeep/core/PageChangesVersionAtPinLaw" (some 0) with
  accessFlags := 49
  interfaces := #[]
  cf := some (fileOf pool1 12 #[] #[{ accessFlags := 1, nameIndex := 5, descriptorIndex := 6, attributes := #[] }, { accessFlags := 9, nameIndex := 32, descriptorIndex := 33, attributes := #[] }, { accessFlags := 10, nameIndex := 15, descriptorIndex := 16, attributes := #[] }, { accessFlags := 10, nameIndex := 19, descriptorIndex := 20, attributes := #[] }] 49 2 #[] #[])
  fields := #[]
  methods := #[k1m0, k1m1, k1m2, k1m3]
  instanceTypes := #[]
  staticTypes := #[]
  resolved := Array.replicate 39 none
  statics := none }

def pool2 : Array CpInfo := pool [(1, .methodref 2 3), (0, .class_ 4), (0, .nameAndType 5 6), (0, u "java/lang/Object"), (0, u "<init>"), (0, u "()V"), (0, .methodref 8 9), (0, .class_ 10), (0, .nameAndType 11 12), (0, u "[J"), (0, u "clone"), (0, u "()Ljava/lang/Object;"), (12, .fieldref 26 27), (0, .class_ 28), (0, .nameAndType 29 10), (0, u "com/example/upkeep/upkeep/core/PageChanges"), (0, u "changes"), (3, u "versionAt"), (0, u "(J)I"), (5, u "([J)V")] 28

def k2c0 : Code := { maxStack := 7, maxLocals := 4, code := prog_33_method_1_code, exceptionTable := #[], attributes := #[] }
def k2m0 : Method := { name := "<init>", desc := "([J)V", sig := { parameters := [(.array .long)], returnType := none }, accessFlags := 1, code := some k2c0 }
def k2c1 : Code := { maxStack := 4, maxLocals := 6, code := prog_33_method_4_code, exceptionTable := #[], attributes := #[] }
def k2m1 : Method := { name := "versionAt", desc := "(J)I", sig := { parameters := [.long], returnType := some .int }, accessFlags := 1, code := some k2c1 }
/-- com/example/upkeep/upkeep/core/PageChanges -/
def k2 : Class := { plain "com/example/upkeep/upkeep/core/PageChanges" (some 0) with
  accessFlags := 49
  interfaces := #[]
  cf := some (fileOf pool2 26 #[] #[{ accessFlags := 1, nameIndex := 5, descriptorIndex := 40, attributes := #[] }, { accessFlags := 1, nameIndex := 33, descriptorIndex := 34, attributes := #[] }] 49 2 #[] #[{ accessFlags := 18, nameIndex := 29, descriptorIndex := 10, attributes := #[] }])
  fields := #[{ name := "changes", type := (.array .long), accessFlags := 18, slot := 0, constantValue := 0 }]
  methods := #[k2m0, k2m1]
  instanceTypes := #[(.array .long)]
  staticTypes := #[]
  resolved := Array.replicate 69 none
  statics := none }

def pool3 : Array CpInfo := pool [(1, .class_ 2), (0, u "java/lang/Cloneable"), (0, .class_ 4), (0, u "java/lang/Object")] 2

/-- java/lang/Cloneable -/
def k3 : Class := { plain "java/lang/Cloneable" (some 0) with
  accessFlags := 1537
  interfaces := #[]
  cf := some (fileOf pool3 1 #[] #[] 1537 3 #[] #[])
  fields := #[]
  methods := #[]
  instanceTypes := #[]
  staticTypes := #[]
  resolved := Array.replicate 7 none
  statics := none }

def pool4 : Array CpInfo := pool [(1, u "java/io/Serializable"), (0, .class_ 1), (0, u "java/lang/Object"), (0, .class_ 3)] 3

/-- java/io/Serializable -/
def k4 : Class := { plain "java/io/Serializable" (some 0) with
  accessFlags := 1537
  interfaces := #[]
  cf := some (fileOf pool4 2 #[] #[] 1537 4 #[] #[])
  fields := #[]
  methods := #[]
  instanceTypes := #[]
  staticTypes := #[]
  resolved := Array.replicate 8 none
  statics := none }

/-- the primitive byte -/
def k5 : Class := { plain "byte" none with kind := .primitive 'B', accessFlags := 0x411 }
/-- [B -/
def k6 : Class := { plain "[B" (some 0) with kind := .array 5 .byte, interfaces := #[3, 4], accessFlags := 1041 }

/-- the primitive int -/
def k7 : Class := { plain "int" none with kind := .primitive 'I', accessFlags := 0x411 }
/-- [I -/
def k8 : Class := { plain "[I" (some 0) with kind := .array 7 .int, interfaces := #[3, 4], accessFlags := 1041 }

/-- the primitive long -/
def k9 : Class := { plain "long" none with kind := .primitive 'J', accessFlags := 0x411 }
/-- [J -/
def k10 : Class := { plain "[J" (some 0) with kind := .array 9 .long, interfaces := #[3, 4], accessFlags := 1041 }

def heap : Heap := #[]
def classes : Array Class := #[k0, k1, k2, k3, k4, k5, k6, k7, k8, k9, k10]
def interned : List (Array UInt16 × Addr) := []
def slotsUsed : Nat := 0
def theMethod : MethodId := ⟨1, 1⟩
def args0 : Array Value := #[.int 3, .long 5, .long 7, .long 9, .long 1, .long 4]
def aboutOver (below : List Frame) : State where
  vm := { classes := classes, interned := interned.toArray }
  heap := heap
  slotsUsed := slotsUsed
  threads := #[{ frames := .invoking theMethod args0 :: below }]
def below0 : List Frame := [.native { method := ⟨0, 0⟩, args := #[] }]
def about1 : State := aboutOver below0
def p0 : Program := .bare "" "" ""
def e0 : Env := launch0.env 0 0 0
theorem w_frames : about1.frames = Frame.invoking theMethod args0 :: below0 := rfl
set_option maxRecDepth 65536 in
theorem w_args : argsFit about1.vm theMethod args0 = true := by decide +kernel
set_option maxRecDepth 65536 in
theorem w_heap : heapFits about1 = true := by decide +kernel
set_option maxRecDepth 65536 in
theorem w_runnable : about1.curStatus? = some .runnable := by decide +kernel
set_option maxRecDepth 65536 in
theorem w_alone : about1.alone = true := by decide +kernel
set_option maxRecDepth 65536 in
theorem w_named : about1.methodNamed? x = some theMethod := by decide +kernel
set_option maxRecDepth 65536 in
theorem w_hears : about1.hears theMethod below0 = true := by decide +kernel
set_option maxRecDepth 65536 in
theorem w_ripe : about1.ripe theMethod args0 below0 = true := by decide +kernel
theorem w_running : about1.status = .running := rfl
set_option maxRecDepth 65536 in
theorem w_room : about1.hasRoom e0.platform room_1 = true :=
  launch0.hasRoom_least _ room_1 (by decide +kernel) (by decide +kernel) (by decide +kernel) (by decide +kernel) (by decide +kernel) (by decide +kernel)
theorem allAtoms_all (ts : List Jvm.Cond) (a : Array Jvm.Value) (st : Jvm.State) : (allAtoms ts).before a st = ts.all (fun c => c.before a st) := by
  induction ts with
  | nil => rfl
  | cons c t ih =>
    show (Jvm.Cond.and c (allAtoms t)).before a st = _
    rw [Jvm.Cond.before_and, ih, List.all_cons]
def words1 : List Jvm.Cond := Jvm.Cond.code x code maxLocals ret :: tables_1
/-- a 'code' word, met by the world's own term for the bytes: nothing is compared byte by byte -/
theorem code_word {y : MethodName} {bytes : ByteArray} {mx : Nat} {rt : Option FieldType} {a : Array Value} {s : State} {m : MethodId} {meth : Method} {c : Code} (h1 : s.methodNamed? y = some m) (h2 : s.vm.method? m = some meth) (h3 : meth.code = some c) (h4 : c.code = bytes)
    (h5 : (c.maxLocals == mx && c.exceptionTable.isEmpty && decide (c.maxStack ≤ mostOperands) && decide (meth.sig.returnType = rt) && !meth.locks && decide (parseMethodDescriptor y.desc = some meth.sig)) = true) : (Jvm.Cond.code y bytes mx rt).before a s = true := by
  simp only [Bool.and_eq_true, beq_iff_eq, Bool.not_eq_true', decide_eq_true_eq] at h5
  obtain ⟨⟨⟨⟨⟨g1, g2⟩, g3⟩, g4⟩, g5⟩, g6⟩ := h5
  simp [Cond.before, Cond.holds, Cond.value, h1, h2, h3, h4, g1, g2, g3, g4, g5, g6]
def isCode : Jvm.Cond → Bool
  | .code _ _ _ _ => true
  | _ => false
theorem all_split {L : List Jvm.Cond} {P : Jvm.Cond → Bool} (h1 : L.all (fun c => isCode c || P c) = true) (h2 : ∀ c ∈ L.filter isCode, P c = true) : L.all P = true := by
  refine List.all_eq_true.mpr fun c hc => ?_
  have h := List.all_eq_true.mp h1 c hc
  rcases Bool.eq_false_or_eq_true (isCode c) with hi | hi
  · exact h2 c (List.mem_filter.mpr ⟨hc, hi⟩)
  · simpa [hi] using h
set_option maxRecDepth 65536 in
theorem w_c0 : (Jvm.Cond.code x code maxLocals ret).before args0 about1 = true := code_word (m := ⟨1, 1⟩) (meth := k1m1) (c := k1c1) (by decide +kernel) rfl rfl rfl (by decide +kernel)
set_option maxRecDepth 65536 in
theorem w_c1 : (Jvm.Cond.code ({ cls := "com/example/upkeep/upkeep/core/PageChangesVersionAtPinLaw", name := "order", desc := "([JII)V" } : Jvm.MethodName) method_3_code (5 : Nat) (Option.none : Option Jvm.ClassFile.FieldType)).before args0 about1 = true := code_word (m := ⟨1, 2⟩) (meth := k1m2) (c := k1c2) (by decide +kernel) rfl rfl rfl (by decide +kernel)
set_option maxRecDepth 65536 in
theorem w_c2 : (Jvm.Cond.code ({ cls := "com/example/upkeep/upkeep/core/PageChangesVersionAtPinLaw", name := "prefix", desc := "([JI)[J" } : Jvm.MethodName) method_4_code (2 : Nat) (Option.some (Jvm.ClassFile.FieldType.array Jvm.ClassFile.FieldType.long))).before args0 about1 = true := code_word (m := ⟨1, 3⟩) (meth := k1m3) (c := k1c3) (by decide +kernel) rfl rfl rfl (by decide +kernel)
set_option maxRecDepth 65536 in
theorem w_c3 : (Jvm.Cond.code ({ cls := "com/example/upkeep/upkeep/core/PageChanges", name := "<init>", desc := "([J)V" } : Jvm.MethodName) prog_33_method_1_code (4 : Nat) (Option.none : Option Jvm.ClassFile.FieldType)).before args0 about1 = true := code_word (m := ⟨2, 0⟩) (meth := k2m0) (c := k2c0) (by decide +kernel) rfl rfl rfl (by decide +kernel)
set_option maxRecDepth 65536 in
theorem w_c4 : (Jvm.Cond.code ({ cls := "java/lang/Object", name := "<init>", desc := "()V" } : Jvm.MethodName) object_method_1_code (1 : Nat) (Option.none : Option Jvm.ClassFile.FieldType)).before args0 about1 = true := code_word (m := ⟨0, 0⟩) (meth := k0m0) (c := k0c0) (by decide +kernel) rfl rfl rfl (by decide +kernel)
set_option maxRecDepth 65536 in
theorem w_c5 : (Jvm.Cond.code ({ cls := "com/example/upkeep/upkeep/core/PageChanges", name := "versionAt", desc := "(J)I" } : Jvm.MethodName) prog_33_method_4_code (6 : Nat) (Option.some Jvm.ClassFile.FieldType.int)).before args0 about1 = true := code_word (m := ⟨2, 1⟩) (meth := k2m1) (c := k2c1) (by decide +kernel) rfl rfl rfl (by decide +kernel)
def codes1 : List Jvm.Cond := [Jvm.Cond.code x code maxLocals ret, Jvm.Cond.code ({ cls := "com/example/upkeep/upkeep/core/PageChangesVersionAtPinLaw", name := "order", desc := "([JII)V" } : Jvm.MethodName) method_3_code (5 : Nat) (Option.none : Option Jvm.ClassFile.FieldType), Jvm.Cond.code ({ cls := "com/example/upkeep/upkeep/core/PageChangesVersionAtPinLaw", name := "prefix", desc := "([JI)[J" } : Jvm.MethodName) method_4_code (2 : Nat) (Option.some (Jvm.ClassFile.FieldType.array Jvm.ClassFile.FieldType.long)), Jvm.Cond.code ({ cls := "com/example/upkeep/upkeep/core/PageChanges", name := "<init>", desc := "([J)V" } : Jvm.MethodName) prog_33_method_1_code (4 : Nat) (Option.none : Option Jvm.ClassFile.FieldType), Jvm.Cond.code ({ cls := "java/lang/Object", name := "<init>", desc := "()V" } : Jvm.MethodName) object_method_1_code (1 : Nat) (Option.none : Option Jvm.ClassFile.FieldType), Jvm.Cond.code ({ cls := "com/example/upkeep/upkeep/core/PageChanges", name := "versionAt", desc := "(J)I" } : Jvm.MethodName) prog_33_method_4_code (6 : Nat) (Option.some Jvm.ClassFile.FieldType.int)]
set_option maxRecDepth 65536 in
theorem codes_eq : words1.filter isCode = codes1 := rfl
theorem w_codes : ∀ c ∈ words1.filter isCode, c.before args0 about1 = true := by
  rw [codes_eq]
  intro c hc
  simp only [codes1, List.mem_cons, List.not_mem_nil, or_false] at hc
  rcases hc with rfl | rfl | rfl | rfl | rfl | rfl
  · exact w_c0
  · exact w_c1
  · exact w_c2
  · exact w_c3
  · exact w_c4
  · exact w_c5
set_option maxRecDepth 65536 in
theorem w_t1 : (words1.take 24).all (fun c => isCode c || c.before args0 about1) = true := by decide +kernel
set_option maxRecDepth 65536 in
theorem w_t2 : (words1.drop 24).all (fun c => isCode c || c.before args0 about1) = true := by decide +kernel
theorem w_tables : (allAtoms (Jvm.Cond.code x code maxLocals ret :: tables_1)).before args0 about1 = true := by
  rw [allAtoms_all]
  show words1.all (fun c => c.before args0 about1) = true
  refine all_split ?_ w_codes
  rw [← List.take_append_drop 24 words1, List.all_append, w_t1, w_t2]
  rfl
set_option maxRecDepth 65536 in
theorem w_case : (Jvm.Cond.and given_1 narrow_1).before args0 about1 = true := by decide +kernel
theorem w_applies : (headSpec (Jvm.Cond.code x code maxLocals ret :: tables_1) room_1).applies x e0.platform about1 = true :=
  (Spec.applies_iff w_frames).mpr ⟨w_running, w_runnable, w_alone, w_named, w_hears, w_ripe, w_room, w_tables⟩
theorem atStart : AtStart classFile x code maxLocals ret World_1 tables_1 room_1 Calls_1 rest_1 Pre_1 launch0 p0 e0 about1 theMethod args0 below0 :=
  ⟨lists_1, trivial, launch0.admits_env _ _ _, launch0.least_env, fairChoices_fair.cas, fairChoices_fair.clock, w_frames, w_args, w_heap, w_applies, trivial, trivial, w_case⟩
end start1
theorem witness_1 : WitnessClaimed_1 := ⟨start1.p0, start1.e0, start1.about1, start1.theMethod, start1.args0, start1.below0, start1.atStart⟩
end Jvm.Pilot.@@N@@
