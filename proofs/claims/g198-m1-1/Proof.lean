import JvmDerived
import JvmDerived.Pilot.@@N@@Statement
import JvmDerived.Pilot.@@N@@Code
set_option linter.unusedVariables false
set_option linter.unusedSimpArgs false
namespace Jvm.RoadKit
open Sem ClassFile Op Lib Jvm.Stand Jvm.Free Jvm.LawKit
section New
variable {p : Program} {l : Launch} {e : Env} {R : Room} {s : State} {m : MethodId} {args : Array Value} {below : List Frame} {meth : Method} {c : Code} {T : State} {locs : List Loc} {cells slots : Nat}
theorem retI (X : Stand p l e R s m args below meth c T locs cells slots) (hx : p.tables.exec = Jvm.exec) {pc : Nat} {Ls : Array Slot} {z : Int32} {rest : List Value} (hret : meth.sig.returnType = some .int) (hd : decode c.code pc = .ok (.ireturn, 1)) {fs : List Frame}
    (hl : ∀ (f : JFrame) (acts : List Action), f.method = m → f.locked = none → f.entered = [] → (doReturn e (T.setTop f) acts (some (.int z))).1 = T.setFrames fs) : Steps p.tables e below (T.setTop (mkF m pc Ls (.int z :: rest))) (T.setFrames fs) := by
  have hm' : T.vm.method? m = some meth := X.method'
  have hn : narrow .int (.int z) = .int z := rfl
  show Steps p.tables e below (T.setTop { method := m, pc := pc, locals := Ls, stack := _ :: rest, locked := none }) _
  jvm_step X.here [X.here.top, hx, hd, hm', hret, hn]
  first | (intro acts; rw [hl _ acts rfl rfl rfl]) | rw [hl _ _ rfl rfl rfl]
  exact Steps.refl _
end New
end Jvm.RoadKit
namespace Jvm.Pilot.@@N@@
open Jvm Jvm.ClassFile Sem Op Lib Jvm.Free Jvm.Stand Jvm.LawKit Jvm.RoadKit Bundle Jvm.Pilot.@@N@@.Jvm.D
section OwnKit
/-- the rest of a body ends well: from the state U on it comes to its end, what it returns and leaves is as Q says -/
def Done (p : Program) (e : Env) (below : List Frame) (s : State) (Q : Option Value → Heap → List Loc → Prop) (C S : Nat) (U : State) : Prop :=
  ∃ s₂ o, Steps p.tables e below U s₂ ∧ s₂.status = .running ∧ Ended s₂ below o ∧ ∃ v L, o = .returned v ∧ Q v s₂.heap L ∧ FrameEnd s o s₂ L C S
variable {p : Program} {l : Launch} {e : Env} {R : Room} {s : State} {m : MethodId} {args : Array Value} {below : List Frame} {meth : Method} {c : Code} {T U U' : State} {locs : List Loc} {cells slots C S : Nat} {Q : Option Value → Heap → List Loc → Prop}
theorem Done.step (h : ∀ t, Steps p.tables e below U' t → Steps p.tables e below U t) (d : Done p e below s Q C S U') : Done p e below s Q C S U := by
  obtain ⟨s₂, o, h1, r⟩ := d
  exact ⟨s₂, o, h _ h1, r⟩
theorem Done.far (h : Steps p.tables e below U U') (d : Done p e below s Q C S U') : Done p e below s Q C S U := by
  obtain ⟨s₂, o, h1, r⟩ := d
  exact ⟨s₂, o, h.trans h1, r⟩
theorem Done.mono {Q' : Option Value → Heap → List Loc → Prop} (d : Done p e below s Q C S U) (h : ∀ v h L, Q v h L → Q' v h L) : Done p e below s Q' C S U := by
  obtain ⟨s₂, o, h1, h2, h3, v, L, h4, h5, h6⟩ := d
  exact ⟨s₂, o, h1, h2, h3, v, L, h4, h _ _ _ h5, h6⟩
theorem Done.int (X : Stand p l e R s m args below meth c T locs cells slots) (hx : p.tables.exec = Jvm.exec) (hlk : meth.locks = false) (hret : meth.sig.returnType = some .int) {pc : Nat} {Ls : Array Slot} {z : Int32} {rest : List Value} (hd : decode c.code pc = .ok (.ireturn, 1)) (hc : cells ≤ C) (hs : slots ≤ S)
    (hq : Q (some (.int z)) T.heap locs) : Done p e below s Q C S (T.setTop (mkF m pc Ls (.int z :: rest))) := by
  obtain ⟨fs, hr, hrun, hended, hW, hsame⟩ := X.leave (v := some (.int z)) (fun h => by rw [hret] at h; cases h)
  exact ⟨_, _, retI X hx hret hd hr, hrun, hended, _, _, rfl, hq, ⟨_, rfl⟩, hW, hsame.mono hc hs⟩
theorem Done.narr (X : Stand p l e R s m args below meth c T locs cells slots) (hx : p.tables.exec = Jvm.exec) (hlk : meth.locks = false) {t : FieldType} (hret : meth.sig.returnType = some t) (ht : t = .boolean ∨ t = .byte ∨ t = .char ∨ t = .short) {pc : Nat} {Ls : Array Slot} {z : Int32} {rest : List Value} (hd : decode c.code pc = .ok (.ireturn, 1)) (hc : cells ≤ C) (hs : slots ≤ S)
    (hq : Q (some (.int (nar t z))) T.heap locs) : Done p e below s Q C S (T.setTop (mkF m pc Ls (.int z :: rest))) := by
  obtain ⟨fs, hr, hrun, hended, hW, hsame⟩ := X.leave (v := some (.int (nar t z))) (fun h => by rw [hret] at h; cases h)
  exact ⟨_, _, retN X hx hret ht hd hr, hrun, hended, _, _, rfl, hq, ⟨_, rfl⟩, hW, hsame.mono hc hs⟩
theorem Done.long (X : Stand p l e R s m args below meth c T locs cells slots) (hx : p.tables.exec = Jvm.exec) (hlk : meth.locks = false) (hret : meth.sig.returnType = some .long) {pc : Nat} {Ls : Array Slot} {z : Int64} {rest : List Value} (hd : decode c.code pc = .ok (.lreturn, 1)) (hc : cells ≤ C) (hs : slots ≤ S)
    (hq : Q (some (.long z)) T.heap locs) : Done p e below s Q C S (T.setTop (mkF m pc Ls (.long z :: rest))) := by
  obtain ⟨fs, hr, hrun, hended, hW, hsame⟩ := X.leave (v := some (.long z)) (fun h => by rw [hret] at h; cases h)
  exact ⟨_, _, retOut X hx hret rfl (Or.inr (Or.inl ⟨rfl, rfl, z, rfl⟩)) hd hr, hrun, hended, _, _, rfl, hq, ⟨_, rfl⟩, hW, hsame.mono hc hs⟩
theorem Done.ref (X : Stand p l e R s m args below meth c T locs cells slots) (hx : p.tables.exec = Jvm.exec) (hlk : meth.locks = false) {t : FieldType} (hret : meth.sig.returnType = some t) (ht : t.isReference = true) {pc : Nat} {Ls : Array Slot} {w : Value} {rest : List Value} (hw : w.isRef = true) (hn : narrow t w = w) (hd : decode c.code pc = .ok (.areturn, 1)) (hc : cells ≤ C) (hs : slots ≤ S)
    (hq : Q (some w) T.heap locs) : Done p e below s Q C S (T.setTop (mkF m pc Ls (w :: rest))) := by
  obtain ⟨fs, hr, hrun, hended, hW, hsame⟩ := X.leave (v := some w) (fun h => by rw [hret] at h; cases h)
  exact ⟨_, _, retOut X hx hret hn (Or.inr (Or.inr (Or.inr (Or.inr ⟨rfl, ht, hw⟩)))) hd hr, hrun, hended, _, _, rfl, hq, ⟨_, rfl⟩, hW, hsame.mono hc hs⟩
theorem Done.void (X : Stand p l e R s m args below meth c T locs cells slots) (hx : p.tables.exec = Jvm.exec) (hlk : meth.locks = false) (hret : meth.sig.returnType = none) {pc : Nat} {Ls : Array Slot} (hd : decode c.code pc = .ok (.return_, 1)) (hc : cells ≤ C) (hs : slots ≤ S)
    (hq : Q none T.heap locs) : Done p e below s Q C S (T.setTop (mkF m pc Ls [])) := by
  obtain ⟨fs, hr, hrun, hended, hW, hsame⟩ := X.leave (v := none) (fun _ => rfl)
  exact ⟨_, _, X.returnOut hx hret hd hr, hrun, hended, _, _, rfl, hq, ⟨_, rfl⟩, hW, hsame.mono hc hs⟩
variable {Z : State} {h h' h0 : Heap} {a b : Addr} {ty : FieldType} {vs : List Value} {sl : Nat} {v x : Value} {ws : List Addr} {j : Int32} {g : JFrame} {rest : List Value}
/-- an array whose slots are just the list vs -/
def Ax (Z : State) (h : Heap) (a : Addr) (ty : FieldType) (vs : List Value) : Prop := ∃ c : Cell, Arr Z h a c ty ∧ c.slots = vs.toArray
theorem Ax.lt (F : Ax Z h a ty vs) : a < h.size := by obtain ⟨c, A, -⟩ := F; exact A.lt
theorem Ax.ext (F : Ax Z h a ty vs) (E : Ext h h') : Ax Z h' a ty vs := by obtain ⟨c, A, r⟩ := F; exact ⟨c, A.ext E, r⟩
theorem Ax.other (F : Ax Z h b ty vs) (W : Wr h h' a sl v) (q : b ≠ a) : Ax Z h' b ty vs := by obtain ⟨c, A, r⟩ := F; exact ⟨c, A.other W q, r⟩
theorem Ax.keep (F : Ax Z h a ty vs) (K : Keep h h' ws) (q : a ∉ ws) : Ax Z h' a ty vs := by obtain ⟨c, A, r⟩ := F; exact ⟨c, ⟨K.2.1 a c A.1 q, A.2⟩, r⟩
theorem own_stakeep {C n d : String} (F : Sta Z h C n d v) (K : Keep h h' ws) (q : ∀ y ∈ ws, ∃ cell : Cell, h[y]? = some cell ∧ cell.vm.isStatics = false) : Sta Z h' C n d v := by
  obtain ⟨cf, i, k, f, st, cell, h1, h2, h3, h4, h5, h6, h7⟩ := F
  refine ⟨cf, i, k, f, st, cell, h1, h2, h3, h4, K.2.1 st cell h5 (fun z => ?_), h6, h7⟩
  obtain ⟨c', g1, g2⟩ := q st z
  cases h5.symm.trans g1; rw [g2] at h6; cases h6
theorem own_unst {C : String} (F : Exa Z h a C) : ∃ cell : Cell, h[a]? = some cell ∧ cell.vm.isStatics = false := by
  obtain ⟨cell, k, h1, -, -, h4, -⟩ := F; exact ⟨cell, h1, h4⟩
theorem fld_long {t : Term} {D n d : String} {k : Int64} {y : Addr} {av : Array Value} (hh : (Jvm.Cond.eq (Term.field t D n d) (Term.long k)).value av Z none Z [] = some true) (ht : t.eval av Z none [] Z = some (.ref y)) : Fld Z Z.heap y D n d (.long k) := by
  obtain ⟨u, w, e1, e2, k1, k2⟩ := cmp_v (Or.inl hh)
  have e3 : (Term.long k).eval av Z none [] Z = some (.long k) := rfl
  rw [e3] at e2; cases e2
  obtain ⟨z, rfl⟩ := k2
  have q := gotT (eq_L e1 e3) hh
  subst q
  rw [fld_at ht] at e1
  exact Fld.start e1
theorem fld_int {t : Term} {D n d : String} {k : Int32} {y : Addr} {av : Array Value} (hh : (Jvm.Cond.eq (Term.field t D n d) (Term.int k)).value av Z none Z [] = some true) (ht : t.eval av Z none [] Z = some (.ref y)) : Fld Z Z.heap y D n d (.int k) := by
  obtain ⟨u, w, e1, e2, k1, k2⟩ := cmp_v (Or.inl hh)
  have e3 : (Term.int k).eval av Z none [] Z = some (.int k) := rfl
  rw [e3] at e2; cases e2
  obtain ⟨z, rfl⟩ := k2
  have q : z = k := by simpa [Jvm.Cond.value, e1, e3] using hh
  subst q
  rw [fld_at ht] at e1
  exact Fld.start e1
theorem Ax.set (F : Ax Z h a ty vs) (W : Wr h h' a sl v) : Ax Z h' a ty (vs.set sl v) := by
  obtain ⟨c, A, r⟩ := F
  exact ⟨_, A.same W, by rw [show (c.setSlot sl v).slots = c.slots.setIfInBounds sl v from rfl, r, List.setIfInBounds_toArray]⟩
theorem Ax.new {k : ClassId} {n : Int32} {i : Nat} (A : Arr Z h a (newA k ty n) ty) (hi : n.toNatClampNeg = i) : Ax Z h a ty (List.replicate i (defaultValue ty)) :=
  ⟨_, A, by rw [show (newA k ty n).slots = Array.replicate n.toNatClampNeg (defaultValue ty) from rfl, hi, List.toArray_replicate]⟩
theorem Ax.size {c : Cell} (r : c.slots = vs.toArray) : c.slots.size = vs.length := by rw [r, List.size_toArray]
theorem Ax.inb {c : Cell} (r : c.slots = vs.toArray) (hj : ¬ j < 0) (hl : j.toNatClampNeg < vs.length) : ¬ (j < 0 ∨ c.slots.size ≤ j.toNatClampNeg) := fun q => q.elim hj fun u => by
  rw [Ax.size r] at u; exact absurd hl (Nat.not_lt.mpr u)
theorem Ax.get {c : Cell} (r : c.slots = vs.toArray) (hat : vs[j.toNatClampNeg]? = some x) : c.slots[j.toNatClampNeg]? = some x := by rw [r, List.getElem?_toArray]; exact hat
theorem Ax.lens (hat : vs[j.toNatClampNeg]? = some x) : j.toNatClampNeg < vs.length := (List.getElem?_eq_some_iff.mp hat).1
theorem ldI (X : Stand p l e R s m args below meth c T locs cells slots) (hx : p.tables.exec = Jvm.exec) (hZ : Z.Warmed39 s.vm) (eT : T.heap = h) (F : Ax Z h a .int vs) (hj : ¬ j < 0) (hat : vs[j.toNatClampNeg]? = some x) (hg : g.method = m) (hs : g.stack = .int j :: .ref a :: rest) (hd : decode c.code g.pc = .ok (.iaload, 1)) :
    ∀ target, Steps p.tables e below (T.setTop { g with pc := g.pc + 1, stack := x :: rest }) target → Steps p.tables e below (T.setTop g) target := by
  obtain ⟨cl, A, r⟩ := F
  exact X.iaload hx (by rw [eT]; exact A.1) (State.isArrayOf_alike hZ.alike A.2.1) A.2.2 (Ax.inb r hj (Ax.lens hat)) (Ax.get r hat) hg hs hd
theorem ldJ (X : Stand p l e R s m args below meth c T locs cells slots) (hx : p.tables.exec = Jvm.exec) (hZ : Z.Warmed39 s.vm) (eT : T.heap = h) (F : Ax Z h a .long vs) (hj : ¬ j < 0) (hat : vs[j.toNatClampNeg]? = some x) (hg : g.method = m) (hs : g.stack = .int j :: .ref a :: rest) (hd : decode c.code g.pc = .ok (.laload, 1)) :
    ∀ target, Steps p.tables e below (T.setTop { g with pc := g.pc + 1, stack := x :: rest }) target → Steps p.tables e below (T.setTop g) target := by
  obtain ⟨cl, A, r⟩ := F
  exact X.laload hx (by rw [eT]; exact A.1) (State.isArrayOf_alike hZ.alike A.2.1) A.2.2 (Ax.inb r hj (Ax.lens hat)) (Ax.get r hat) hg hs hd
theorem ldB (X : Stand p l e R s m args below meth c T locs cells slots) (hx : p.tables.exec = Jvm.exec) (hZ : Z.Warmed39 s.vm) (eT : T.heap = h) (F : Ax Z h a .byte vs) (hj : ¬ j < 0) (hat : vs[j.toNatClampNeg]? = some x) (hg : g.method = m) (hs : g.stack = .int j :: .ref a :: rest) (hd : decode c.code g.pc = .ok (.baload, 1)) :
    ∀ target, Steps p.tables e below (T.setTop { g with pc := g.pc + 1, stack := x :: rest }) target → Steps p.tables e below (T.setTop g) target := by
  obtain ⟨cl, A, r⟩ := F
  exact X.baloadBytes hx (by rw [eT]; exact A.1) (State.isArrayOf_alike hZ.alike A.2.1) A.2.2 (Ax.inb r hj (Ax.lens hat)) (Ax.get r hat) hg hs hd
theorem ldZ (X : Stand p l e R s m args below meth c T locs cells slots) (hx : p.tables.exec = Jvm.exec) (hZ : Z.Warmed39 s.vm) (eT : T.heap = h) (F : Ax Z h a .boolean vs) (hj : ¬ j < 0) (hat : vs[j.toNatClampNeg]? = some x) (hg : g.method = m) (hs : g.stack = .int j :: .ref a :: rest) (hd : decode c.code g.pc = .ok (.baload, 1)) :
    ∀ target, Steps p.tables e below (T.setTop { g with pc := g.pc + 1, stack := x :: rest }) target → Steps p.tables e below (T.setTop g) target := by
  obtain ⟨cl, A, r⟩ := F
  exact X.baloadBooleans hx (by rw [eT]; exact A.1) (State.isArrayOf_alike hZ.alike A.2.1) A.2.2 (Ax.inb r hj (Ax.lens hat)) (Ax.get r hat) hg hs hd
theorem lenA (X : Stand p l e R s m args below meth c T locs cells slots) (hx : p.tables.exec = Jvm.exec) (hZ : Z.Warmed39 s.vm) (eT : T.heap = h) (F : Ax Z h a ty vs) {n : Int32} (hn : vs.length.toInt32 = n) (hg : g.method = m) (hs : g.stack = .ref a :: rest) (hd : decode c.code g.pc = .ok (.arraylength, 1)) :
    ∀ target, Steps p.tables e below (T.setTop { g with pc := g.pc + 1, stack := .int n :: rest }) target → Steps p.tables e below (T.setTop g) target := by
  obtain ⟨cl, A, r⟩ := F
  intro target k
  refine X.arraylength hx (by rw [eT]; exact A.1) (State.isArrayOf_alike hZ.alike A.2.1) hg hs hd target ?_
  rw [Ax.size r, hn]; exact k
theorem stoI (X : Stand p l e R s m args below meth c T locs cells slots) (hx : p.tables.exec = Jvm.exec) (hZ : Z.Warmed39 s.vm) (eT : T.heap = h) (F : Ax Z h a .int vs) {y : Int32} (hj : ¬ j < 0) {i : Nat} (hi : j.toNatClampNeg = i) (hl : i < vs.length) (hg : g.method = m) (hs : g.stack = .int y :: .int j :: .ref a :: rest) (hd : decode c.code g.pc = .ok (.iastore, 1)) :
    ∃ T' h', Stand p l e R s m args below meth c T' (locs ++ [⟨a, j.toNatClampNeg⟩]) cells slots ∧ T'.heap = h' ∧ Wr h h' a j.toNatClampNeg (.int y) ∧ Ax Z h' a .int (vs.set i (.int y)) ∧ ∀ target, Steps p.tables e below (T'.setTop { g with pc := g.pc + 1, stack := rest }) target → Steps p.tables e below (T.setTop g) target := by
  obtain ⟨cl, A, r⟩ := F
  obtain ⟨T', h', X', e', W, st⟩ := stI X hx hZ eT A (Ax.inb r hj (by rw [hi]; exact hl)) hg hs hd
  exact ⟨T', h', X', e', W, hi ▸ Ax.set ⟨cl, A, r⟩ W, st⟩
theorem stoJ (X : Stand p l e R s m args below meth c T locs cells slots) (hx : p.tables.exec = Jvm.exec) (hZ : Z.Warmed39 s.vm) (eT : T.heap = h) (F : Ax Z h a .long vs) {y : Int64} (hj : ¬ j < 0) {i : Nat} (hi : j.toNatClampNeg = i) (hl : i < vs.length) (hg : g.method = m) (hs : g.stack = .long y :: .int j :: .ref a :: rest) (hd : decode c.code g.pc = .ok (.lastore, 1)) :
    ∃ T' h', Stand p l e R s m args below meth c T' (locs ++ [⟨a, j.toNatClampNeg⟩]) cells slots ∧ T'.heap = h' ∧ Wr h h' a j.toNatClampNeg (.long y) ∧ Ax Z h' a .long (vs.set i (.long y)) ∧ ∀ target, Steps p.tables e below (T'.setTop { g with pc := g.pc + 1, stack := rest }) target → Steps p.tables e below (T.setTop g) target := by
  obtain ⟨cl, A, r⟩ := F
  obtain ⟨T', h', X', e', W, st⟩ := stJ X hx hZ eT A (Ax.inb r hj (by rw [hi]; exact hl)) hg hs hd
  exact ⟨T', h', X', e', W, hi ▸ Ax.set ⟨cl, A, r⟩ W, st⟩
theorem stoB (X : Stand p l e R s m args below meth c T locs cells slots) (hx : p.tables.exec = Jvm.exec) (hZ : Z.Warmed39 s.vm) (eT : T.heap = h) (F : Ax Z h a .byte vs) {y : Int32} (hj : ¬ j < 0) {i : Nat} (hi : j.toNatClampNeg = i) (hl : i < vs.length) (hg : g.method = m) (hs : g.stack = .int y :: .int j :: .ref a :: rest) (hd : decode c.code g.pc = .ok (.bastore, 1)) :
    ∃ T' h', Stand p l e R s m args below meth c T' (locs ++ [⟨a, j.toNatClampNeg⟩]) cells slots ∧ T'.heap = h' ∧ Wr h h' a j.toNatClampNeg (.int (nar .byte y)) ∧ Ax Z h' a .byte (vs.set i (.int (nar .byte y))) ∧ ∀ target, Steps p.tables e below (T'.setTop { g with pc := g.pc + 1, stack := rest }) target → Steps p.tables e below (T.setTop g) target := by
  obtain ⟨cl, A, r⟩ := F
  obtain ⟨T', h', X', e', W, st⟩ := stB X hx hZ eT A (Ax.inb r hj (by rw [hi]; exact hl)) hg hs hd
  exact ⟨T', h', X', e', W, hi ▸ Ax.set ⟨cl, A, r⟩ W, st⟩
theorem stoZ (X : Stand p l e R s m args below meth c T locs cells slots) (hx : p.tables.exec = Jvm.exec) (hZ : Z.Warmed39 s.vm) (eT : T.heap = h) (F : Ax Z h a .boolean vs) {y : Int32} (hj : ¬ j < 0) {i : Nat} (hi : j.toNatClampNeg = i) (hl : i < vs.length) (hg : g.method = m) (hs : g.stack = .int y :: .int j :: .ref a :: rest) (hd : decode c.code g.pc = .ok (.bastore, 1)) :
    ∃ T' h', Stand p l e R s m args below meth c T' (locs ++ [⟨a, j.toNatClampNeg⟩]) cells slots ∧ T'.heap = h' ∧ Wr h h' a j.toNatClampNeg (.int (nar .boolean y)) ∧ Ax Z h' a .boolean (vs.set i (.int (nar .boolean y))) ∧ ∀ target, Steps p.tables e below (T'.setTop { g with pc := g.pc + 1, stack := rest }) target → Steps p.tables e below (T.setTop g) target := by
  obtain ⟨cl, A, r⟩ := F
  obtain ⟨T', h', X', e', W, st⟩ := stZ X hx hZ eT A (Ax.inb r hj (by rw [hi]; exact hl)) hg hs hd
  exact ⟨T', h', X', e', W, hi ▸ Ax.set ⟨cl, A, r⟩ W, st⟩
theorem cloX (X : Stand p l e R s m args below meth c T locs cells slots) (hx : p.tables.exec = Jvm.exec) (hZ : Z.Warmed39 s.vm) {a0 : Array Value} {own ad : String} {index : Nat} (hown : s.vm.findClass own = some m.cls)
    (w1 : (Cond.methodLink own index ⟨ad, "clone", "()Ljava/lang/Object;"⟩).before a0 Z = true) (w2 : (Cond.sameMethod ad "java/lang/Object" "clone" "()Ljava/lang/Object;").before a0 Z = true) (w3 : (Cond.native ⟨"java/lang/Object", "clone", "()Ljava/lang/Object;"⟩).before a0 Z = true)
    (w4 : (Cond.instanceMethod ⟨"java/lang/Object", "clone", "()Ljava/lang/Object;"⟩).before a0 Z = true) (w5 : (Cond.selects ad ⟨ad, "clone", "()Ljava/lang/Object;"⟩ ⟨"java/lang/Object", "clone", "()Ljava/lang/Object;"⟩).before a0 Z = true) (w6 : (Cond.castable ad "java/lang/Cloneable").before a0 Z = true)
    (eT : T.heap = h) (F : Ax Z h a ty vs) (E : Exa Z h a ad) (G : ∀ v ∈ vs, fits ty v = true) (hg : g.method = m) (hsize : g.locals.size = c.maxLocals) (hs : g.stack = .ref a :: rest) (hd : decode c.code g.pc = .ok (.invokevirtual index, 3))
    (hf : 1 ≤ R.frames) {W cap : Nat} (hW : 2 * g.monitorRoom + (rest.map fun v => v.category).sum ≤ W) (hl : W + 14 ≤ R.locals) (hcap : vs.length ≤ cap) (hc : cells + 1 ≤ R.cells) (hsl : slots + cap ≤ R.slots) :
    ∃ T' h', Stand p l e R s m args below meth c T' locs (cells + 1) (slots + cap) ∧ T'.heap = h' ∧ Ext h h' ∧ Ax Z h' h.size ty vs ∧ Exa Z h' h.size ad ∧
      ∀ target, Steps p.tables e below (T'.setTop { g with pc := g.pc + 3, stack := .ref h.size :: rest }) target → Steps p.tables e below (T.setTop g) target := by
  obtain ⟨cl, A, r⟩ := F
  have FC : FitC Z cl := fitC_of A fun i hi v hv => by
    rw [r, List.getElem?_toArray] at hv
    exact G v (List.mem_of_getElem? hv)
  obtain ⟨T', h', X', e', ex, A', E', st⟩ := cloneA X hx hZ hown w1 w2 w3 w4 w5 w6 eT A E FC hg hsize hs hd hf hW hl (by rw [Ax.size r]; exact hcap) hc hsl
  exact ⟨T', h', X', e', ex, ⟨cloneOf cl, A', r⟩, E', st⟩
end OwnKit
theorem pd_0 : parseMethodDescriptor "(II)Z" = some ⟨[.int, .int], some .boolean⟩ := by decide +kernel
theorem pd_1 : parseMethodDescriptor "(II[Z)V" = some ⟨[.int, .int, (.array .boolean)], none⟩ := by decide +kernel
theorem pd_2 : parseMethodDescriptor "(III)I" = some ⟨[.int, .int, .int], some .int⟩ := by decide +kernel
theorem pd_3 : parseMethodDescriptor "()I" = some ⟨[], some .int⟩ := by decide +kernel
theorem d1_0 : decode method_2_code 0 = .ok (.iload_n 0, 1) := by decide +kernel
theorem d1_1 : decode method_2_code 1 = .ok (.iload_n 1, 1) := by decide +kernel
theorem d1_2 : decode method_2_code 2 = .ok (.iushr, 1) := by decide +kernel
theorem d1_3 : decode method_2_code 3 = .ok (.iconst 1, 1) := by decide +kernel
theorem d1_4 : decode method_2_code 4 = .ok (.iand, 1) := by decide +kernel
theorem d1_5 : decode method_2_code 5 = .ok (.ifCond .eq 7, 3) := by decide +kernel
theorem d1_8 : decode method_2_code 8 = .ok (.iconst 1, 1) := by decide +kernel
theorem d1_9 : decode method_2_code 9 = .ok (.goto 4, 3) := by decide +kernel
theorem d1_12 : decode method_2_code 12 = .ok (.iconst 0, 1) := by decide +kernel
theorem d1_13 : decode method_2_code 13 = .ok (.ireturn, 1) := by decide +kernel
def F1 (p1 : Int32) (p2 : Int32) : Int32 := (if (((p1.toUInt32 >>> (p2 &&& 31).toUInt32).toInt32) &&& (1 : Int32)) = (0 : Int32) then (0 : Int32)
  else (1 : Int32))
theorem pn_1 : plainName "com/example/wardsum/wardsum/model/GridMapFreeCellCountPinLaw" = true := by first | (simp [plainName, overriddenIn]; done) | decide +kernel
theorem ef_1 (m : MethodId) (p1 : Int32) (p2 : Int32) : entryFrame m #[(.int p1), (.int p2)] 2 = mkF m 0 #[.val (.int p1), .val (.int p2)] [] := by first | (simp [entryFrame, mkF, argsToLocals, Value.category]; done) | rfl
def Qrm1 (Z : State) (p1 : Int32) (p2 : Int32) (h0 : Heap) (n0 : Nat) : Option Value → Heap → List Loc → Prop := fun v h L => v = some (.int (F1 p1 p2)) ∧ Fr n0 L ∧ h = h0
set_option maxRecDepth 65536 in
set_option maxHeartbeats 40000000 in
theorem rm1 (l : Launch) (Z : State) (a0 : Array Value) (hw : ∀ d ∈ tables_1, d.before a0 Z = true) (ws : List Jvm.Cond) (p1 : Int32) (p2 : Int32) (h0 : Heap) (n0 : Nat) (Z0 : n0 ≤ h0.size) :
    MetFree l (⟨"com/example/wardsum/wardsum/model/GridMapFreeCellCountPinLaw", "bit", "(II)Z"⟩ : MethodName) (head1 (Jvm.Cond.code (⟨"com/example/wardsum/wardsum/model/GridMapFreeCellCountPinLaw", "bit", "(II)Z"⟩ : MethodName) method_2_code 2 (some .boolean) :: ws) ({ frames := 0, cells := 0, slots := 0, locals := 0 } : Room)) (fun a U => a = #[(.int p1), (.int p2)] ∧ Z.Warmed39 U.vm ∧ U.heap = h0) (fun _ _ _ _ _ => True) (fun _ U o U' => ∃ v L, o = .returned v ∧ Qrm1 Z p1 p2 h0 n0 v U'.heap L ∧ FrameEnd U o U' L ({ frames := 0, cells := 0, slots := 0, locals := 0 } : Room).cells ({ frames := 0, cells := 0, slots := 0, locals := 0 } : Room).slots) := by
  refine MetFree.of_bodySF (plainFor_of_name pn_1) hisR ?_
  intro p e s m args below meth c s₁ Bd hml0 hP hK
  obtain ⟨rfl, hZ, hh⟩ := hP
  have hx := Bd.exec
  have hby := Bd.bytes
  have hml : c.maxLocals = 2 := hml0
  have hown : s.vm.findClass "com/example/wardsum/wardsum/model/GridMapFreeCellCountPinLaw" = some m.cls := findClass_of_methodNamed Bd.named
  have hnm := (name_of_methodNamed Bd.named Bd.method).1
  have hlk : meth.locks = false := BodyLoose.notSynchronized Bd
  have hret := Bd.returns
  have X0 : Stand p l e ({ frames := 0, cells := 0, slots := 0, locals := 0 } : Room) s m #[(.int p1), (.int p2)] below meth c s₁ [] 0 0 := Stand.of_body Bd
  have e0 : s₁.heap = h0 := by rw [← hh, Bd.state]; rfl
  have N0 := Fr.nil n0
  show Done p e below s (Qrm1 Z p1 p2 h0 n0) ({ frames := 0, cells := 0, slots := 0, locals := 0 } : Room).cells ({ frames := 0, cells := 0, slots := 0, locals := 0 } : Room).slots (s₁.setTop (entryFrame m #[(.int p1), (.int p2)] 2))
  refine Done.step (fun t k => castTop (ef_1 m p1 p2) k) ?_
  show Done p e below s _ _ _ (s₁.setTop (mkF m 0 #[.val (.int p1), .val (.int p2)] []))
  refine Done.step (fun t k => XS.iloadN X0.here hx rfl (hb hby d1_0) rfl k) ?_
  show Done p e below s _ _ _ (s₁.setTop (mkF m 1 #[.val (.int p1), .val (.int p2)] [(.int p1)]))
  refine Done.step (fun t k => XS.iloadN X0.here hx rfl (hb hby d1_1) rfl k) ?_
  show Done p e below s _ _ _ (s₁.setTop (mkF m 2 #[.val (.int p1), .val (.int p2)] [(.int p2), (.int p1)]))
  refine Done.step (fun t k => XS.iushr X0.here hx rfl (hb hby d1_2) rfl k) ?_
  show Done p e below s _ _ _ (s₁.setTop (mkF m 3 #[.val (.int p1), .val (.int p2)] [(.int ((p1.toUInt32 >>> (p2 &&& 31).toUInt32).toInt32))]))
  refine Done.step (fun t k => XS.iconst X0.here hx rfl (hb hby d1_3) k) ?_
  show Done p e below s _ _ _ (s₁.setTop (mkF m 4 #[.val (.int p1), .val (.int p2)] [(.int (1 : Int32)), (.int ((p1.toUInt32 >>> (p2 &&& 31).toUInt32).toInt32))]))
  refine Done.step (fun t k => XS.iand X0.here hx rfl (hb hby d1_4) rfl k) ?_
  show Done p e below s _ _ _ (s₁.setTop (mkF m 5 #[.val (.int p1), .val (.int p2)] [(.int (((p1.toUInt32 >>> (p2 &&& 31).toUInt32).toInt32) &&& (1 : Int32)))]))
  by_cases c1 : (((p1.toUInt32 >>> (p2 &&& 31).toUInt32).toInt32) &&& (1 : Int32)) = (0 : Int32)
  · refine Done.step (fun t k => XS.ifYes X0.here hx rfl (pc0 := 5) (pc' := 12) rfl (hb hby d1_5) rfl ((if0 _ _).trans (teq c1).1) (by decide) (by decide) k) ?_
    show Done p e below s _ _ _ (s₁.setTop (mkF m 12 #[.val (.int p1), .val (.int p2)] []))
    refine Done.step (fun t k => XS.iconst X0.here hx rfl (hb hby d1_12) k) ?_
    show Done p e below s _ _ _ (s₁.setTop (mkF m 13 #[.val (.int p1), .val (.int p2)] [(.int (0 : Int32))]))
    exact Done.narr X0 hx hlk hret (by simp) (hb hby d1_13) (by decide) (by decide) ⟨by rw [show F1 p1 p2 = (0 : Int32) from by unfold F1; rw [if_pos c1]] <;> rfl, N0, e0⟩
  · refine Done.step (fun t k => XS.ifNo X0.here hx rfl (hb hby d1_5) rfl ((if0 _ _).trans (feq c1).1) k) ?_
    show Done p e below s _ _ _ (s₁.setTop (mkF m 8 #[.val (.int p1), .val (.int p2)] []))
    refine Done.step (fun t k => XS.iconst X0.here hx rfl (hb hby d1_8) k) ?_
    show Done p e below s _ _ _ (s₁.setTop (mkF m 9 #[.val (.int p1), .val (.int p2)] [(.int (1 : Int32))]))
    refine Done.step (fun t k => XS.goto X0.here hx rfl (pc0 := 9) (pc' := 13) rfl (hb hby d1_9) (by decide) (by decide) k) ?_
    show Done p e below s _ _ _ (s₁.setTop (mkF m 13 #[.val (.int p1), .val (.int p2)] [(.int (1 : Int32))]))
    exact Done.narr X0 hx hlk hret (by simp) (hb hby d1_13) (by decide) (by decide) ⟨by rw [show F1 p1 p2 = (1 : Int32) from by unfold F1; rw [if_neg c1]] <;> rfl, N0, e0⟩
theorem d4_0 : decode method_3_code 0 = .ok (.iload_n 1, 1) := by decide +kernel
theorem d4_1 : decode method_3_code 1 = .ok (.iload_n 2, 1) := by decide +kernel
theorem d4_2 : decode method_3_code 2 = .ok (.if_icmp .ge 15, 3) := by decide +kernel
theorem d4_5 : decode method_3_code 5 = .ok (.iload_n 0, 1) := by decide +kernel
theorem d4_6 : decode method_3_code 6 = .ok (.iload_n 1, 1) := by decide +kernel
theorem d4_7 : decode method_3_code 7 = .ok (.invokestatic 7, 3) := by decide +kernel
theorem d4_10 : decode method_3_code 10 = .ok (.ifCond .eq 7, 3) := by decide +kernel
theorem d4_13 : decode method_3_code 13 = .ok (.iconst 1, 1) := by decide +kernel
theorem d4_14 : decode method_3_code 14 = .ok (.goto 4, 3) := by decide +kernel
theorem d4_17 : decode method_3_code 17 = .ok (.iconst 0, 1) := by decide +kernel
theorem d4_18 : decode method_3_code 18 = .ok (.ireturn, 1) := by decide +kernel
def F4 (p1 : Int32) (p2 : Int32) (p3 : Int32) : Int32 := (if p2 < p3 then (if (F1 p1 p2) = (0 : Int32) then (0 : Int32)
    else (1 : Int32))
  else (0 : Int32))
theorem pn_4 : plainName "com/example/wardsum/wardsum/model/GridMapFreeCellCountPinLaw" = true := by first | (simp [plainName, overriddenIn]; done) | decide +kernel
theorem ef_4 (m : MethodId) (p1 : Int32) (p2 : Int32) (p3 : Int32) : entryFrame m #[(.int p1), (.int p2), (.int p3)] 3 = mkF m 0 #[.val (.int p1), .val (.int p2), .val (.int p3)] [] := by first | (simp [entryFrame, mkF, argsToLocals, Value.category]; done) | rfl
def Qrm4 (Z : State) (p1 : Int32) (p2 : Int32) (p3 : Int32) (h0 : Heap) (n0 : Nat) : Option Value → Heap → List Loc → Prop := fun v h L => v = some (.int (F4 p1 p2 p3)) ∧ Fr n0 L ∧ h = h0
set_option maxRecDepth 65536 in
set_option maxHeartbeats 40000000 in
theorem rm4 (l : Launch) (Z : State) (a0 : Array Value) (hw : ∀ d ∈ tables_1, d.before a0 Z = true) (ws : List Jvm.Cond) (p1 : Int32) (p2 : Int32) (p3 : Int32) (h0 : Heap) (n0 : Nat) (Z0 : n0 ≤ h0.size) :
    MetFree l (⟨"com/example/wardsum/wardsum/model/GridMapFreeCellCountPinLaw", "one", "(III)I"⟩ : MethodName) (head1 (Jvm.Cond.code (⟨"com/example/wardsum/wardsum/model/GridMapFreeCellCountPinLaw", "one", "(III)I"⟩ : MethodName) method_3_code 3 (some .int) :: ws) ({ frames := 1, cells := 0, slots := 0, locals := 13 } : Room)) (fun a U => a = #[(.int p1), (.int p2), (.int p3)] ∧ Z.Warmed39 U.vm ∧ U.heap = h0) (fun _ _ _ _ _ => True) (fun _ U o U' => ∃ v L, o = .returned v ∧ Qrm4 Z p1 p2 p3 h0 n0 v U'.heap L ∧ FrameEnd U o U' L ({ frames := 1, cells := 0, slots := 0, locals := 13 } : Room).cells ({ frames := 1, cells := 0, slots := 0, locals := 13 } : Room).slots) := by
  refine MetFree.of_bodySF (plainFor_of_name pn_4) hisR ?_
  intro p e s m args below meth c s₁ Bd hml0 hP hK
  obtain ⟨rfl, hZ, hh⟩ := hP
  have hx := Bd.exec
  have hby := Bd.bytes
  have hml : c.maxLocals = 3 := hml0
  have hown : s.vm.findClass "com/example/wardsum/wardsum/model/GridMapFreeCellCountPinLaw" = some m.cls := findClass_of_methodNamed Bd.named
  have hnm := (name_of_methodNamed Bd.named Bd.method).1
  have hlk : meth.locks = false := BodyLoose.notSynchronized Bd
  have hret := Bd.returns
  have X0 : Stand p l e ({ frames := 1, cells := 0, slots := 0, locals := 13 } : Room) s m #[(.int p1), (.int p2), (.int p3)] below meth c s₁ [] 0 0 := Stand.of_body Bd
  have e0 : s₁.heap = h0 := by rw [← hh, Bd.state]; rfl
  have N0 := Fr.nil n0
  show Done p e below s (Qrm4 Z p1 p2 p3 h0 n0) ({ frames := 1, cells := 0, slots := 0, locals := 13 } : Room).cells ({ frames := 1, cells := 0, slots := 0, locals := 13 } : Room).slots (s₁.setTop (entryFrame m #[(.int p1), (.int p2), (.int p3)] 3))
  refine Done.step (fun t k => castTop (ef_4 m p1 p2 p3) k) ?_
  show Done p e below s _ _ _ (s₁.setTop (mkF m 0 #[.val (.int p1), .val (.int p2), .val (.int p3)] []))
  refine Done.step (fun t k => XS.iloadN X0.here hx rfl (hb hby d4_0) rfl k) ?_
  show Done p e below s _ _ _ (s₁.setTop (mkF m 1 #[.val (.int p1), .val (.int p2), .val (.int p3)] [(.int p2)]))
  refine Done.step (fun t k => XS.iloadN X0.here hx rfl (hb hby d4_1) rfl k) ?_
  show Done p e below s _ _ _ (s₁.setTop (mkF m 2 #[.val (.int p1), .val (.int p2), .val (.int p3)] [(.int p3), (.int p2)]))
  by_cases c1 : p2 < p3
  · refine Done.step (fun t k => XS.icmpNo X0.here hx rfl (hb hby d4_2) rfl (tlt c1).2.1 k) ?_
    show Done p e below s _ _ _ (s₁.setTop (mkF m 5 #[.val (.int p1), .val (.int p2), .val (.int p3)] []))
    refine Done.step (fun t k => XS.iloadN X0.here hx rfl (hb hby d4_5) rfl k) ?_
    show Done p e below s _ _ _ (s₁.setTop (mkF m 6 #[.val (.int p1), .val (.int p2), .val (.int p3)] [(.int p1)]))
    refine Done.step (fun t k => XS.iloadN X0.here hx rfl (hb hby d4_6) rfl k) ?_
    show Done p e below s _ _ _ (s₁.setTop (mkF m 7 #[.val (.int p1), .val (.int p2), .val (.int p3)] [(.int p2), (.int p1)]))
    obtain ⟨v2, _, ⟨T2, L2, k2, n2⟩, -, X2, ⟨Lc2, hQ2, l2, y2, z2⟩, st2⟩ := Jvm.LawKit.callS X0 hx (y := (⟨"com/example/wardsum/wardsum/model/GridMapFreeCellCountPinLaw", "bit", "(II)Z"⟩ : MethodName)) hown (mvT hZ (hw _ (List.mem_of_getElem? (i := 2) rfl))) (mvT hZ (hw _ (List.mem_of_getElem? (i := 3) rfl))) (mvT hZ (hw _ (List.mem_of_getElem? (i := 4) rfl))) (mvT hZ (hw _ (List.mem_of_getElem? (i := 5) rfl))) (by decide) (backOf (W := 0) (rm1 l Z a0 hw [] p1 p2 h0 n0 Z0 ) hZ (hw _ (List.mem_of_getElem? (i := 5) rfl)) (hw _ (List.mem_of_getElem? (i := 4) rfl)) (by decide) (by decide)) (g := (mkF m 7 #[.val (.int p1), .val (.int p2), .val (.int p3)] [(.int p2), (.int p1)])) rfl (by rw [hml]; rfl) (argsL := [(.int p1), (.int p2)]) (rest := []) (lenOf pd_0 rfl) rfl (by show 2 * 0 + _ ≤ _; exact Nat.le_of_eq rfl) (hb hby d4_7) (fun _ _ => ⟨rfl, e0, (by decide : 0 + 0 ≤ _), (by decide : 0 + 0 ≤ _)⟩)
    dsimp only [Pt.U, Pt.locs, Pt.cells, Pt.slots] at X2 l2 y2 z2 st2 hQ2
    subst l2 y2 z2
    refine Done.step st2 ?_
    obtain ⟨rfl, N2q, e2⟩ := hQ2
    have N2 := Fr.app N0 N2q
    show Done p e below s _ _ _ (T2.setTop (mkF m 10 #[.val (.int p1), .val (.int p2), .val (.int p3)] [(.int (F1 p1 p2))]))
    by_cases c3 : (F1 p1 p2) = (0 : Int32)
    · refine Done.step (fun t k => XS.ifYes X2.here hx rfl (pc0 := 10) (pc' := 17) rfl (hb hby d4_10) rfl ((if0 _ _).trans (teq c3).1) (by decide) (by decide) k) ?_
      show Done p e below s _ _ _ (T2.setTop (mkF m 17 #[.val (.int p1), .val (.int p2), .val (.int p3)] []))
      refine Done.step (fun t k => XS.iconst X2.here hx rfl (hb hby d4_17) k) ?_
      show Done p e below s _ _ _ (T2.setTop (mkF m 18 #[.val (.int p1), .val (.int p2), .val (.int p3)] [(.int (0 : Int32))]))
      exact Done.int X2 hx hlk hret (hb hby d4_18) (by decide) (by decide) ⟨by rw [show F4 p1 p2 p3 = (0 : Int32) from by unfold F4; rw [if_pos c1, if_pos c3]] <;> rfl, N2, e2⟩
    · refine Done.step (fun t k => XS.ifNo X2.here hx rfl (hb hby d4_10) rfl ((if0 _ _).trans (feq c3).1) k) ?_
      show Done p e below s _ _ _ (T2.setTop (mkF m 13 #[.val (.int p1), .val (.int p2), .val (.int p3)] []))
      refine Done.step (fun t k => XS.iconst X2.here hx rfl (hb hby d4_13) k) ?_
      show Done p e below s _ _ _ (T2.setTop (mkF m 14 #[.val (.int p1), .val (.int p2), .val (.int p3)] [(.int (1 : Int32))]))
      refine Done.step (fun t k => XS.goto X2.here hx rfl (pc0 := 14) (pc' := 18) rfl (hb hby d4_14) (by decide) (by decide) k) ?_
      show Done p e below s _ _ _ (T2.setTop (mkF m 18 #[.val (.int p1), .val (.int p2), .val (.int p3)] [(.int (1 : Int32))]))
      exact Done.int X2 hx hlk hret (hb hby d4_18) (by decide) (by decide) ⟨by rw [show F4 p1 p2 p3 = (1 : Int32) from by unfold F4; rw [if_pos c1, if_neg c3]] <;> rfl, N2, e2⟩
  · refine Done.step (fun t k => XS.icmpYes X0.here hx rfl (pc0 := 2) (pc' := 17) rfl (hb hby d4_2) rfl (flt c1).2.1 (by decide) (by decide) k) ?_
    show Done p e below s _ _ _ (s₁.setTop (mkF m 17 #[.val (.int p1), .val (.int p2), .val (.int p3)] []))
    refine Done.step (fun t k => XS.iconst X0.here hx rfl (hb hby d4_17) k) ?_
    show Done p e below s _ _ _ (s₁.setTop (mkF m 18 #[.val (.int p1), .val (.int p2), .val (.int p3)] [(.int (0 : Int32))]))
    exact Done.int X0 hx hlk hret (hb hby d4_18) (by decide) (by decide) ⟨by rw [show F4 p1 p2 p3 = (0 : Int32) from by unfold F4; rw [if_neg c1]] <;> rfl, N0, e0⟩
def BV (m : Int32) (j : Nat) : Int32 := nar .boolean (F1 m j.toInt32)
def VL (m : Int32) (n i : Nat) : List Int32 := (List.range n).map fun j => if j < i then BV m j else 0
theorem VL_len (m : Int32) (n i : Nat) : (VL m n i).length = n := by simp [VL]
theorem VL_zero (m : Int32) (n : Nat) : (VL m n 0).map Value.int = List.replicate n (Value.int (0 : Int32)) := by
  apply List.ext_getElem
  · simp [VL]
  · intro j h1 h2; simp [VL]
theorem VL_set (m : Int32) (n i : Nat) (z : Int32) (hz : BV m i = z) (h : i < n) : ((VL m n i).map Value.int).set i (Value.int z) = (VL m n (i + 1)).map Value.int := by
  apply List.ext_getElem
  · simp [VL]
  · intro j h1 h2
    rw [List.getElem_set]
    by_cases q : i = j
    · subst q; simp [VL, hz]
    · simp only [if_neg q, VL, List.getElem_map, List.getElem_range]
      congr 1
      by_cases u : j < i
      · rw [if_pos u, if_pos (by omega)]
      · rw [if_neg u, if_neg (by omega)]
theorem VL_skip (m : Int32) (n i : Nat) (h : n ≤ i) : VL m n i = VL m n (i + 1) := by
  apply List.ext_getElem
  · simp [VL]
  · intro j h1 h2
    have hj : j < n := by simpa [VL] using h1
    simp only [VL, List.getElem_map, List.getElem_range]
    rw [if_pos (by omega), if_pos (by omega)]
def CN (acc : Int32) (xs : List Int32) : Int32 := xs.foldl (fun c x => if x = 0 then c else c + 1) acc
theorem own_drop {xs : List Int32} {j : Nat} {x : Int32} (h : xs[j]? = some x) : xs.drop j = x :: xs.drop (j + 1) := by
  obtain ⟨hl, rfl⟩ := List.getElem?_eq_some_iff.mp h
  exact List.drop_eq_getElem_cons hl
theorem d2_0 : decode prog_46_method_1_code 0 = .ok (.aload_n 0, 1) := by decide +kernel
theorem d2_1 : decode prog_46_method_1_code 1 = .ok (.invokespecial 1, 3) := by decide +kernel
theorem d2_4 : decode prog_46_method_1_code 4 = .ok (.iload_n 1, 1) := by decide +kernel
theorem d2_5 : decode prog_46_method_1_code 5 = .ok (.iconst 1, 1) := by decide +kernel
theorem d2_6 : decode prog_46_method_1_code 6 = .ok (.if_icmp .lt 20, 3) := by decide +kernel
theorem d2_9 : decode prog_46_method_1_code 9 = .ok (.iload_n 2, 1) := by decide +kernel
theorem d2_10 : decode prog_46_method_1_code 10 = .ok (.iconst 1, 1) := by decide +kernel
theorem d2_11 : decode prog_46_method_1_code 11 = .ok (.if_icmp .lt 15, 3) := by decide +kernel
theorem d2_14 : decode prog_46_method_1_code 14 = .ok (.iload_n 1, 1) := by decide +kernel
theorem d2_15 : decode prog_46_method_1_code 15 = .ok (.i2l, 1) := by decide +kernel
theorem d2_16 : decode prog_46_method_1_code 16 = .ok (.iload_n 2, 1) := by decide +kernel
theorem d2_17 : decode prog_46_method_1_code 17 = .ok (.i2l, 1) := by decide +kernel
theorem d2_18 : decode prog_46_method_1_code 18 = .ok (.lmul, 1) := by decide +kernel
theorem d2_19 : decode prog_46_method_1_code 19 = .ok (.aload_n 3, 1) := by decide +kernel
theorem d2_20 : decode prog_46_method_1_code 20 = .ok (.arraylength, 1) := by decide +kernel
theorem d2_21 : decode prog_46_method_1_code 21 = .ok (.i2l, 1) := by decide +kernel
theorem d2_22 : decode prog_46_method_1_code 22 = .ok (.lcmp, 1) := by decide +kernel
theorem d2_23 : decode prog_46_method_1_code 23 = .ok (.ifCond .eq 20, 3) := by decide +kernel
theorem d2_43 : decode prog_46_method_1_code 43 = .ok (.aload_n 0, 1) := by decide +kernel
theorem d2_44 : decode prog_46_method_1_code 44 = .ok (.iload_n 1, 1) := by decide +kernel
theorem d2_45 : decode prog_46_method_1_code 45 = .ok (.putfield 16, 3) := by decide +kernel
theorem d2_48 : decode prog_46_method_1_code 48 = .ok (.aload_n 0, 1) := by decide +kernel
theorem d2_49 : decode prog_46_method_1_code 49 = .ok (.iload_n 2, 1) := by decide +kernel
theorem d2_50 : decode prog_46_method_1_code 50 = .ok (.putfield 22, 3) := by decide +kernel
theorem d2_53 : decode prog_46_method_1_code 53 = .ok (.aload_n 0, 1) := by decide +kernel
theorem d2_54 : decode prog_46_method_1_code 54 = .ok (.aload_n 3, 1) := by decide +kernel
theorem d2_55 : decode prog_46_method_1_code 55 = .ok (.invokevirtual 25, 3) := by decide +kernel
theorem d2_58 : decode prog_46_method_1_code 58 = .ok (.checkcast 26, 3) := by decide +kernel
theorem d2_61 : decode prog_46_method_1_code 61 = .ok (.putfield 31, 3) := by decide +kernel
theorem d2_64 : decode prog_46_method_1_code 64 = .ok (.return_, 1) := by decide +kernel
theorem pn_2 : plainName "com/example/wardsum/wardsum/model/GridMap" = true := by first | (simp [plainName, overriddenIn]; done) | decide +kernel
theorem ef_2 (m : MethodId) (a1 : Addr) (p2 : Int32) (p3 : Int32) (a4 : Addr) : entryFrame m #[(.ref a1), (.int p2), (.int p3), (.ref a4)] 4 = mkF m 0 #[.val (.ref a1), .val (.int p2), .val (.int p3), .val (.ref a4)] [] := by first | (simp [entryFrame, mkF, argsToLocals, Value.category]; done) | rfl
def Qrm2 (Z : State) (a1 : Addr) (p2 : Int32) (p3 : Int32) (a4 : Addr) (xs : List Int32) (zl : Int32) (h0 : Heap) (n0 : Nat) : Option Value → Heap → List Loc → Prop := fun v h L => v = none ∧ Fr n0 L ∧ Keep h0 h [a1] ∧ Exa Z h a1 "com/example/wardsum/wardsum/model/GridMap" ∧ ∃ d : Addr, Fld Z h a1 "com/example/wardsum/wardsum/model/GridMap" "free" "[Z" (.ref d) ∧ Ax Z h d .boolean (xs.map Value.int) ∧ h0.size ≤ d
set_option maxRecDepth 65536 in
set_option maxHeartbeats 40000000 in
theorem rm2 (l : Launch) (Z : State) (a0 : Array Value) (hw : ∀ d ∈ tables_1, d.before a0 Z = true) (ws : List Jvm.Cond) (a1 : Addr) (p2 : Int32) (p3 : Int32) (a4 : Addr) (xs : List Int32) (zl : Int32) (h0 : Heap) (n0 : Nat) (Z0 : n0 ≤ h0.size) (E1 : Exa Z h0 a1 "com/example/wardsum/wardsum/model/GridMap") (F_width : Fld Z h0 a1 "com/example/wardsum/wardsum/model/GridMap" "width" "I" (.int (0 : Int32))) (F_height : Fld Z h0 a1 "com/example/wardsum/wardsum/model/GridMap" "height" "I" (.int (0 : Int32))) (F_free : Fld Z h0 a1 "com/example/wardsum/wardsum/model/GridMap" "free" "[Z" .null) (g1 : n0 ≤ a1) (E4 : Exa Z h0 a4 "[Z") (A4 : Ax Z h0 a4 .boolean (xs.map Value.int)) (hfit : ∀ x ∈ xs, fits .boolean (.int x) = true) (hlen : xs.length ≤ 12) (hzl : xs.length.toInt32 = zl) (hp1 : ¬ p2 < (1 : Int32)) (hp2 : ¬ p3 < (1 : Int32)) (hwh : ((p2).toInt64 * (p3).toInt64) = (zl).toInt64) :
    MetFree l (⟨"com/example/wardsum/wardsum/model/GridMap", "<init>", "(II[Z)V"⟩ : MethodName) (head1 (Jvm.Cond.code (⟨"com/example/wardsum/wardsum/model/GridMap", "<init>", "(II[Z)V"⟩ : MethodName) prog_46_method_1_code 4 none :: ws) ({ frames := 1, cells := 1, slots := 12, locals := 15 } : Room)) (fun a U => a = #[(.ref a1), (.int p2), (.int p3), (.ref a4)] ∧ Z.Warmed39 U.vm ∧ U.heap = h0) (fun _ _ _ _ _ => True) (fun _ U o U' => ∃ v L, o = .returned v ∧ Qrm2 Z a1 p2 p3 a4 xs zl h0 n0 v U'.heap L ∧ FrameEnd U o U' L ({ frames := 1, cells := 1, slots := 12, locals := 15 } : Room).cells ({ frames := 1, cells := 1, slots := 12, locals := 15 } : Room).slots) := by
  refine MetFree.of_bodySF (plainFor_of_name pn_2) hisR ?_
  intro p e s m args below meth c s₁ Bd hml0 hP hK
  obtain ⟨rfl, hZ, hh⟩ := hP
  have hx := Bd.exec
  have hby := Bd.bytes
  have hml : c.maxLocals = 4 := hml0
  have hown : s.vm.findClass "com/example/wardsum/wardsum/model/GridMap" = some m.cls := findClass_of_methodNamed Bd.named
  have hnm := (name_of_methodNamed Bd.named Bd.method).1
  have hlk : meth.locks = false := BodyLoose.notSynchronized Bd
  have hret := Bd.returns
  have X0 : Stand p l e ({ frames := 1, cells := 1, slots := 12, locals := 15 } : Room) s m #[(.ref a1), (.int p2), (.int p3), (.ref a4)] below meth c s₁ [] 0 0 := Stand.of_body Bd
  have e0 : s₁.heap = h0 := by rw [← hh, Bd.state]; rfl
  have N0 := Fr.nil n0
  show Done p e below s (Qrm2 Z a1 p2 p3 a4 xs zl h0 n0) ({ frames := 1, cells := 1, slots := 12, locals := 15 } : Room).cells ({ frames := 1, cells := 1, slots := 12, locals := 15 } : Room).slots (s₁.setTop (entryFrame m #[(.ref a1), (.int p2), (.int p3), (.ref a4)] 4))
  refine Done.step (fun t k => castTop (ef_2 m a1 p2 p3 a4) k) ?_
  show Done p e below s _ _ _ (s₁.setTop (mkF m 0 #[.val (.ref a1), .val (.int p2), .val (.int p3), .val (.ref a4)] []))
  refine Done.step (fun t k => XS.aloadN X0.here hx rfl (hb hby d2_0) rfl rfl k) ?_
  show Done p e below s _ _ _ (s₁.setTop (mkF m 1 #[.val (.ref a1), .val (.int p2), .val (.int p3), .val (.ref a4)] [(.ref a1)]))
  obtain ⟨T1, X1, e1, st1⟩ := initO X0 hx hZ hown (hw _ (List.mem_of_getElem? (i := 12) rfl)) (hw _ (List.mem_of_getElem? (i := 13) rfl)) (hw _ (List.mem_of_getElem? (i := 14) rfl)) e0 (g := (mkF m 1 #[.val (.ref a1), .val (.int p2), .val (.int p3), .val (.ref a4)] [(.ref a1)])) rfl (by rw [hml]; rfl) rfl (hb hby d2_1) (by decide) (W := 0) (by show 2 * 0 + _ ≤ _; exact Nat.le_of_eq rfl) (by decide)
  refine Done.step st1 ?_
  show Done p e below s _ _ _ (T1.setTop (mkF m 4 #[.val (.ref a1), .val (.int p2), .val (.int p3), .val (.ref a4)] []))
  refine Done.step (fun t k => XS.iloadN X1.here hx rfl (hb hby d2_4) rfl k) ?_
  show Done p e below s _ _ _ (T1.setTop (mkF m 5 #[.val (.ref a1), .val (.int p2), .val (.int p3), .val (.ref a4)] [(.int p2)]))
  refine Done.step (fun t k => XS.iconst X1.here hx rfl (hb hby d2_5) k) ?_
  show Done p e below s _ _ _ (T1.setTop (mkF m 6 #[.val (.ref a1), .val (.int p2), .val (.int p3), .val (.ref a4)] [(.int (1 : Int32)), (.int p2)]))
  refine Done.step (fun t k => XS.icmpNo X1.here hx rfl (hb hby d2_6) rfl (flt hp1).1 k) ?_
  show Done p e below s _ _ _ (T1.setTop (mkF m 9 #[.val (.ref a1), .val (.int p2), .val (.int p3), .val (.ref a4)] []))
  refine Done.step (fun t k => XS.iloadN X1.here hx rfl (hb hby d2_9) rfl k) ?_
  show Done p e below s _ _ _ (T1.setTop (mkF m 10 #[.val (.ref a1), .val (.int p2), .val (.int p3), .val (.ref a4)] [(.int p3)]))
  refine Done.step (fun t k => XS.iconst X1.here hx rfl (hb hby d2_10) k) ?_
  show Done p e below s _ _ _ (T1.setTop (mkF m 11 #[.val (.ref a1), .val (.int p2), .val (.int p3), .val (.ref a4)] [(.int (1 : Int32)), (.int p3)]))
  refine Done.step (fun t k => XS.icmpNo X1.here hx rfl (hb hby d2_11) rfl (flt hp2).1 k) ?_
  show Done p e below s _ _ _ (T1.setTop (mkF m 14 #[.val (.ref a1), .val (.int p2), .val (.int p3), .val (.ref a4)] []))
  refine Done.step (fun t k => XS.iloadN X1.here hx rfl (hb hby d2_14) rfl k) ?_
  show Done p e below s _ _ _ (T1.setTop (mkF m 15 #[.val (.ref a1), .val (.int p2), .val (.int p3), .val (.ref a4)] [(.int p2)]))
  refine Done.step (fun t k => XS.i2l X1.here hx rfl (hb hby d2_15) rfl k) ?_
  show Done p e below s _ _ _ (T1.setTop (mkF m 16 #[.val (.ref a1), .val (.int p2), .val (.int p3), .val (.ref a4)] [(.long (p2).toInt64)]))
  refine Done.step (fun t k => XS.iloadN X1.here hx rfl (hb hby d2_16) rfl k) ?_
  show Done p e below s _ _ _ (T1.setTop (mkF m 17 #[.val (.ref a1), .val (.int p2), .val (.int p3), .val (.ref a4)] [(.int p3), (.long (p2).toInt64)]))
  refine Done.step (fun t k => XS.i2l X1.here hx rfl (hb hby d2_17) rfl k) ?_
  show Done p e below s _ _ _ (T1.setTop (mkF m 18 #[.val (.ref a1), .val (.int p2), .val (.int p3), .val (.ref a4)] [(.long (p3).toInt64), (.long (p2).toInt64)]))
  refine Done.step (fun t k => XS.lmul X1.here hx rfl (hb hby d2_18) rfl k) ?_
  show Done p e below s _ _ _ (T1.setTop (mkF m 19 #[.val (.ref a1), .val (.int p2), .val (.int p3), .val (.ref a4)] [(.long ((p2).toInt64 * (p3).toInt64))]))
  refine Done.step (fun t k => XS.aloadN X1.here hx rfl (hb hby d2_19) rfl rfl k) ?_
  show Done p e below s _ _ _ (T1.setTop (mkF m 20 #[.val (.ref a1), .val (.int p2), .val (.int p3), .val (.ref a4)] [(.ref a4), (.long ((p2).toInt64 * (p3).toInt64))]))
  refine Done.step (lenA X1 hx hZ e1 A4 (n := zl) (by rw [List.length_map]; exact hzl) (g := (mkF m 20 #[.val (.ref a1), .val (.int p2), .val (.int p3), .val (.ref a4)] [(.ref a4), (.long ((p2).toInt64 * (p3).toInt64))])) rfl rfl (hb hby d2_20)) ?_
  show Done p e below s _ _ _ (T1.setTop (mkF m 21 #[.val (.ref a1), .val (.int p2), .val (.int p3), .val (.ref a4)] [(.int zl), (.long ((p2).toInt64 * (p3).toInt64))]))
  refine Done.step (fun t k => XS.i2l X1.here hx rfl (hb hby d2_21) rfl k) ?_
  show Done p e below s _ _ _ (T1.setTop (mkF m 22 #[.val (.ref a1), .val (.int p2), .val (.int p3), .val (.ref a4)] [(.long (zl).toInt64), (.long ((p2).toInt64 * (p3).toInt64))]))
  refine Done.step (fun t k => XS.lcmp X1.here hx rfl (hb hby d2_22) rfl k) ?_
  show Done p e below s _ _ _ (T1.setTop (mkF m 23 #[.val (.ref a1), .val (.int p2), .val (.int p3), .val (.ref a4)] [(.int (lcmpW ((p2).toInt64 * (p3).toInt64) (zl).toInt64))]))
  refine Done.step (fun t k => XS.ifYes X1.here hx rfl (pc0 := 23) (pc' := 43) rfl (hb hby d2_23) rfl ((if0 _ _).trans (teq ((lw_eq _ _).mpr hwh)).1) (by decide) (by decide) k) ?_
  show Done p e below s _ _ _ (T1.setTop (mkF m 43 #[.val (.ref a1), .val (.int p2), .val (.int p3), .val (.ref a4)] []))
  refine Done.step (fun t k => XS.aloadN X1.here hx rfl (hb hby d2_43) rfl rfl k) ?_
  show Done p e below s _ _ _ (T1.setTop (mkF m 44 #[.val (.ref a1), .val (.int p2), .val (.int p3), .val (.ref a4)] [(.ref a1)]))
  refine Done.step (fun t k => XS.iloadN X1.here hx rfl (hb hby d2_44) rfl k) ?_
  show Done p e below s _ _ _ (T1.setTop (mkF m 45 #[.val (.ref a1), .val (.int p2), .val (.int p3), .val (.ref a4)] [(.int p2), (.ref a1)]))
  obtain ⟨T2, h2, X2, e2, W2, st2⟩ := putF X1 hx hZ hown (host := "") (Or.inl (hw _ (List.mem_of_getElem? (i := 15) rfl))) Via.refl e1 F_width E1 (Or.inr ⟨(hw _ (List.mem_of_getElem? (i := 16) rfl)), rfl, hnm⟩) (hw _ (List.mem_of_getElem? (i := 7) rfl)) (ty := .int) (by decide) rfl rfl (g := (mkF m 45 #[.val (.ref a1), .val (.int p2), .val (.int p3), .val (.ref a4)] [(.int p2), (.ref a1)])) rfl rfl (hb hby d2_45)
  have f3 : Exa Z h2 a1 "com/example/wardsum/wardsum/model/GridMap" := E1.wr W2
  have f4 : Fld Z h2 a1 "com/example/wardsum/wardsum/model/GridMap" "width" "I" (.int p2) := F_width.same W2
  have f5 : Fld Z h2 a1 "com/example/wardsum/wardsum/model/GridMap" "height" "I" (.int (0 : Int32)) := F_height.other W2 (Or.inr (slot_ne (Or.inr (hw _ (List.mem_of_getElem? (i := 18) rfl))) (Or.inr (hw _ (List.mem_of_getElem? (i := 16) rfl))) (by decide) (t := .int) (t' := .int) (by decide) (by decide)))
  have f6 : Fld Z h2 a1 "com/example/wardsum/wardsum/model/GridMap" "free" "[Z" .null := F_free.other W2 (Or.inr (slot_ne (Or.inr (hw _ (List.mem_of_getElem? (i := 29) rfl))) (Or.inr (hw _ (List.mem_of_getElem? (i := 16) rfl))) (by decide) (t := (.array .boolean)) (t' := .int) (by decide) (by decide)))
  have f7 : Exa Z h2 a4 "[Z" := E4.wr W2
  have f8 : Ax Z h2 a4 .boolean (xs.map Value.int) := A4.other W2 (Ne.symm (ne_exa E1 E4 (by decide)))
  have Z2 : n0 ≤ h2.size := Nat.le_trans Z0 (Keep.of_wr W2).1
  have N2 := Fr.snoc X2 N0 g1
  have K2 : Keep h0 h2 [a1] := (Keep.refl h0 [a1]).wr W2 (Or.inl (by simp))
  refine Done.step st2 ?_
  show Done p e below s _ _ _ (T2.setTop (mkF m 48 #[.val (.ref a1), .val (.int p2), .val (.int p3), .val (.ref a4)] []))
  refine Done.step (fun t k => XS.aloadN X2.here hx rfl (hb hby d2_48) rfl rfl k) ?_
  show Done p e below s _ _ _ (T2.setTop (mkF m 49 #[.val (.ref a1), .val (.int p2), .val (.int p3), .val (.ref a4)] [(.ref a1)]))
  refine Done.step (fun t k => XS.iloadN X2.here hx rfl (hb hby d2_49) rfl k) ?_
  show Done p e below s _ _ _ (T2.setTop (mkF m 50 #[.val (.ref a1), .val (.int p2), .val (.int p3), .val (.ref a4)] [(.int p3), (.ref a1)]))
  obtain ⟨T9, h9, X9, e9, W9, st9⟩ := putF X2 hx hZ hown (host := "") (Or.inl (hw _ (List.mem_of_getElem? (i := 17) rfl))) Via.refl e2 f5 f3 (Or.inr ⟨(hw _ (List.mem_of_getElem? (i := 18) rfl)), rfl, hnm⟩) (hw _ (List.mem_of_getElem? (i := 7) rfl)) (ty := .int) (by decide) rfl rfl (g := (mkF m 50 #[.val (.ref a1), .val (.int p2), .val (.int p3), .val (.ref a4)] [(.int p3), (.ref a1)])) rfl rfl (hb hby d2_50)
  have f10 : Exa Z h9 a1 "com/example/wardsum/wardsum/model/GridMap" := f3.wr W9
  have f11 : Fld Z h9 a1 "com/example/wardsum/wardsum/model/GridMap" "width" "I" (.int p2) := f4.other W9 (Or.inr (slot_ne (Or.inr (hw _ (List.mem_of_getElem? (i := 16) rfl))) (Or.inr (hw _ (List.mem_of_getElem? (i := 18) rfl))) (by decide) (t := .int) (t' := .int) (by decide) (by decide)))
  have f12 : Fld Z h9 a1 "com/example/wardsum/wardsum/model/GridMap" "height" "I" (.int p3) := f5.same W9
  have f13 : Fld Z h9 a1 "com/example/wardsum/wardsum/model/GridMap" "free" "[Z" .null := f6.other W9 (Or.inr (slot_ne (Or.inr (hw _ (List.mem_of_getElem? (i := 29) rfl))) (Or.inr (hw _ (List.mem_of_getElem? (i := 18) rfl))) (by decide) (t := (.array .boolean)) (t' := .int) (by decide) (by decide)))
  have f14 : Exa Z h9 a4 "[Z" := f7.wr W9
  have f15 : Ax Z h9 a4 .boolean (xs.map Value.int) := f8.other W9 (Ne.symm (ne_exa E1 E4 (by decide)))
  have Z9 : n0 ≤ h9.size := Nat.le_trans Z2 (Keep.of_wr W9).1
  have N9 := Fr.snoc X9 N2 g1
  have K9 : Keep h0 h9 [a1] := K2.wr W9 (Or.inl (by simp))
  refine Done.step st9 ?_
  show Done p e below s _ _ _ (T9.setTop (mkF m 53 #[.val (.ref a1), .val (.int p2), .val (.int p3), .val (.ref a4)] []))
  refine Done.step (fun t k => XS.aloadN X9.here hx rfl (hb hby d2_53) rfl rfl k) ?_
  show Done p e below s _ _ _ (T9.setTop (mkF m 54 #[.val (.ref a1), .val (.int p2), .val (.int p3), .val (.ref a4)] [(.ref a1)]))
  refine Done.step (fun t k => XS.aloadN X9.here hx rfl (hb hby d2_54) rfl rfl k) ?_
  show Done p e below s _ _ _ (T9.setTop (mkF m 55 #[.val (.ref a1), .val (.int p2), .val (.int p3), .val (.ref a4)] [(.ref a4), (.ref a1)]))
  obtain ⟨T16, h16, X16, e16, E16, A16, B16, st16⟩ := cloX X9 hx hZ hown (hw _ (List.mem_of_getElem? (i := 19) rfl)) (hw _ (List.mem_of_getElem? (i := 20) rfl)) (hw _ (List.mem_of_getElem? (i := 24) rfl)) (hw _ (List.mem_of_getElem? (i := 22) rfl)) (hw _ (List.mem_of_getElem? (i := 23) rfl)) (hw _ (List.mem_of_getElem? (i := 25) rfl)) e9 f15 f14 (by intro v hv; obtain ⟨x, hx1, rfl⟩ := List.mem_map.mp hv; exact hfit x hx1) (g := (mkF m 55 #[.val (.ref a1), .val (.int p2), .val (.int p3), .val (.ref a4)] [(.ref a4), (.ref a1)])) rfl (by rw [hml]; rfl) rfl (hb hby d2_55) (by decide) (W := 1) (cap := 12) (by show 2 * 0 + _ ≤ _; exact Nat.le_of_eq rfl) (by decide) (by rw [List.length_map]; exact hlen) (by decide) (by decide)
  obtain ⟨b16, gq16⟩ : ∃ z, z = h9.size := ⟨_, rfl⟩
  rw [← gq16] at A16 B16 st16
  have ne17 : a1 ≠ b16 := Nat.ne_of_lt (Nat.lt_of_lt_of_le f10.lt (Nat.le_of_eq gq16.symm))
  have ne18 : a4 ≠ b16 := Nat.ne_of_lt (Nat.lt_of_lt_of_le f14.lt (Nat.le_of_eq gq16.symm))
  have f19 : Exa Z h16 a1 "com/example/wardsum/wardsum/model/GridMap" := f10.ext E16
  have f20 : Fld Z h16 a1 "com/example/wardsum/wardsum/model/GridMap" "width" "I" (.int p2) := f11.ext E16
  have f21 : Fld Z h16 a1 "com/example/wardsum/wardsum/model/GridMap" "height" "I" (.int p3) := f12.ext E16
  have f22 : Fld Z h16 a1 "com/example/wardsum/wardsum/model/GridMap" "free" "[Z" .null := f13.ext E16
  have f23 : Exa Z h16 a4 "[Z" := f14.ext E16
  have f24 : Ax Z h16 a4 .boolean (xs.map Value.int) := f15.ext E16
  have g_b16 : n0 ≤ b16 := Nat.le_trans Z9 (Nat.le_of_eq gq16.symm)
  have sz_b16 : h0.size ≤ b16 := Nat.le_trans K9.1 (Nat.le_of_eq gq16.symm)
  have Z16 : n0 ≤ h16.size := Nat.le_trans Z9 E16.1
  have K16 : Keep h0 h16 [a1] := K9.ext E16
  refine Done.step st16 ?_
  show Done p e below s _ _ _ (T16.setTop (mkF m 58 #[.val (.ref a1), .val (.int p2), .val (.int p3), .val (.ref a4)] [(.ref b16), (.ref a1)]))
  obtain ⟨T25, X25, e25, st25⟩ := castY X16 hx hZ hown (hw _ (List.mem_of_getElem? (i := 26) rfl)) e16 (Ins.self B16) (g := (mkF m 58 #[.val (.ref a1), .val (.int p2), .val (.int p3), .val (.ref a4)] [(.ref b16), (.ref a1)])) rfl rfl (hb hby d2_58)
  refine Done.step st25 ?_
  show Done p e below s _ _ _ (T25.setTop (mkF m 61 #[.val (.ref a1), .val (.int p2), .val (.int p3), .val (.ref a4)] [(.ref b16), (.ref a1)]))
  obtain ⟨T26, h26, X26, e26, W26, st26⟩ := putF X25 hx hZ hown (host := "") (Or.inl (hw _ (List.mem_of_getElem? (i := 28) rfl))) Via.refl e25 f22 f19 (Or.inr ⟨(hw _ (List.mem_of_getElem? (i := 29) rfl)), rfl, hnm⟩) (hw _ (List.mem_of_getElem? (i := 7) rfl)) (ty := (.array .boolean)) (by decide) rfl rfl (g := (mkF m 61 #[.val (.ref a1), .val (.int p2), .val (.int p3), .val (.ref a4)] [(.ref b16), (.ref a1)])) rfl rfl (hb hby d2_61)
  have f27 : Exa Z h26 a1 "com/example/wardsum/wardsum/model/GridMap" := f19.wr W26
  have f28 : Fld Z h26 a1 "com/example/wardsum/wardsum/model/GridMap" "width" "I" (.int p2) := f20.other W26 (Or.inr (slot_ne (Or.inr (hw _ (List.mem_of_getElem? (i := 16) rfl))) (Or.inr (hw _ (List.mem_of_getElem? (i := 29) rfl))) (by decide) (t := .int) (t' := (.array .boolean)) (by decide) (by decide)))
  have f29 : Fld Z h26 a1 "com/example/wardsum/wardsum/model/GridMap" "height" "I" (.int p3) := f21.other W26 (Or.inr (slot_ne (Or.inr (hw _ (List.mem_of_getElem? (i := 18) rfl))) (Or.inr (hw _ (List.mem_of_getElem? (i := 29) rfl))) (by decide) (t := .int) (t' := (.array .boolean)) (by decide) (by decide)))
  have f30 : Fld Z h26 a1 "com/example/wardsum/wardsum/model/GridMap" "free" "[Z" (.ref b16) := f22.same W26
  have f31 : Exa Z h26 a4 "[Z" := f23.wr W26
  have f32 : Ax Z h26 a4 .boolean (xs.map Value.int) := f24.other W26 (Ne.symm (ne_exa E1 E4 (by decide)))
  have f33 : Exa Z h26 b16 "[Z" := B16.wr W26
  have f34 : Ax Z h26 b16 .boolean (xs.map Value.int) := A16.other W26 (Ne.symm ne17)
  have Z26 : n0 ≤ h26.size := Nat.le_trans Z16 (Keep.of_wr W26).1
  have N26 := Fr.snoc X26 N9 g1
  have K26 : Keep h0 h26 [a1] := K16.wr W26 (Or.inl (by simp))
  refine Done.step st26 ?_
  show Done p e below s _ _ _ (T26.setTop (mkF m 64 #[.val (.ref a1), .val (.int p2), .val (.int p3), .val (.ref a4)] []))
  exact Done.void X26 hx hlk hret (hb hby d2_64) (by decide) (by decide) ⟨rfl, N26, (by rw [e26]; exact ⟨K26, f27, b16, f30, f34, sz_b16⟩)⟩
theorem d5_13 : decode prog_46_method_6_code 13 = .ok (.iload 4, 2) := by decide +kernel
theorem d5_15 : decode prog_46_method_6_code 15 = .ok (.iload_n 3, 1) := by decide +kernel
theorem d5_16 : decode prog_46_method_6_code 16 = .ok (.if_icmp .ge 23, 3) := by decide +kernel
theorem d5_19 : decode prog_46_method_6_code 19 = .ok (.aload_n 2, 1) := by decide +kernel
theorem d5_20 : decode prog_46_method_6_code 20 = .ok (.iload 4, 2) := by decide +kernel
theorem d5_22 : decode prog_46_method_6_code 22 = .ok (.baload, 1) := by decide +kernel
theorem d5_23 : decode prog_46_method_6_code 23 = .ok (.istore 5, 2) := by decide +kernel
theorem d5_25 : decode prog_46_method_6_code 25 = .ok (.iload 5, 2) := by decide +kernel
theorem d5_27 : decode prog_46_method_6_code 27 = .ok (.ifCond .eq 6, 3) := by decide +kernel
theorem d5_30 : decode prog_46_method_6_code 30 = .ok (.iinc 1 1, 3) := by decide +kernel
theorem d5_33 : decode prog_46_method_6_code 33 = .ok (.iinc 4 1, 3) := by decide +kernel
theorem d5_36 : decode prog_46_method_6_code 36 = .ok (.goto (-23), 3) := by decide +kernel
theorem d5_39 : decode prog_46_method_6_code 39 = .ok (.iload_n 1, 1) := by decide +kernel
theorem d5_40 : decode prog_46_method_6_code 40 = .ok (.ireturn, 1) := by decide +kernel
set_option maxRecDepth 65536 in
set_option maxHeartbeats 40000000 in
theorem lp13 {p : Program} {l : Launch} {e : Env} {s : State} {m : MethodId} {args : Array Value} {below : List Frame} {meth : Method} {c : Code} {Z : State} {a0 : Array Value} {h0 : Heap} {n0 : Nat} (a1 d2 : Addr) (n3 : Int32) (xs : List Int32)
    (hx : p.tables.exec = Jvm.exec) (hZ : Z.Warmed39 s.vm) (hw : ∀ d ∈ tables_1, d.before a0 Z = true) (hby : c.code = prog_46_method_6_code) (hml : c.maxLocals = 6) (hown : s.vm.findClass "com/example/wardsum/wardsum/model/GridMap" = some m.cls) (hlk : meth.locks = false) (hret : meth.sig.returnType = (some .int : Option FieldType)) (hnm : meth.name = "freeCellCount") (A2 : Ax Z h0 d2 .boolean (xs.map Value.int)) (hn3 : n3.toInt = xs.length) :
    ∀ (k : Nat) (T : State) (locs : List Loc) (i1 : Int32) (i4 : Int32) (s5 : Slot) (X0 : Stand p l e ({ frames := 0, cells := 0, slots := 0, locals := 0 } : Room) s m args below meth c T locs 0 0) (N0 : Fr n0 locs) (Z0 : n0 ≤ h0.size) (e0 : T.heap = h0) (hs5 : s5 = Slot.unset ∨ ∃ z : Int32, s5 = .val (.int z)) (hk : (n3.toInt - i4.toInt).toNat < k) (hi0 : 0 ≤ i4.toInt) (hacc : CN i1 (xs.drop i4.toNatClampNeg) = CN (0 : Int32) xs), Done p e below s (fun v h L => v = some (.int (CN (0 : Int32) xs)) ∧ Fr n0 L ∧ h = h0) ({ frames := 0, cells := 0, slots := 0, locals := 0 } : Room).cells ({ frames := 0, cells := 0, slots := 0, locals := 0 } : Room).slots (T.setTop (mkF m 13 #[.val (.ref a1), .val (.int i1), .val (.ref d2), .val (.int n3), .val (.int i4), s5] [])) := by
  intro k
  induction k with
  | zero => intro T locs i1 i4 s5 X0 N0 Z0 e0 hs5 hk hi0 hacc; exact absurd hk (Nat.not_lt_zero _)
  | succ k ih =>
    intro T locs i1 i4 s5 X0 N0 Z0 e0 hs5 hk hi0 hacc
    show Done p e below s _ _ _ (T.setTop (mkF m 13 #[.val (.ref a1), .val (.int i1), .val (.ref d2), .val (.int n3), .val (.int i4), s5] []))
    refine Done.step (fun t k => XS.iload X0.here hx rfl (hb hby d5_13) rfl k) ?_
    show Done p e below s _ _ _ (T.setTop (mkF m 15 #[.val (.ref a1), .val (.int i1), .val (.ref d2), .val (.int n3), .val (.int i4), s5] [(.int i4)]))
    refine Done.step (fun t k => XS.iloadN X0.here hx rfl (hb hby d5_15) rfl k) ?_
    show Done p e below s _ _ _ (T.setTop (mkF m 16 #[.val (.ref a1), .val (.int i1), .val (.ref d2), .val (.int n3), .val (.int i4), s5] [(.int n3), (.int i4)]))
    by_cases c1 : i4 < n3
    · refine Done.step (fun t k => XS.icmpNo X0.here hx rfl (hb hby d5_16) rfl (tlt c1).2.1 k) ?_
      show Done p e below s _ _ _ (T.setTop (mkF m 19 #[.val (.ref a1), .val (.int i1), .val (.ref d2), .val (.int n3), .val (.int i4), s5] []))
      refine Done.step (fun t k => XS.aloadN X0.here hx rfl (hb hby d5_19) rfl rfl k) ?_
      show Done p e below s _ _ _ (T.setTop (mkF m 20 #[.val (.ref a1), .val (.int i1), .val (.ref d2), .val (.int n3), .val (.int i4), s5] [(.ref d2)]))
      refine Done.step (fun t k => XS.iload X0.here hx rfl (hb hby d5_20) rfl k) ?_
      show Done p e below s _ _ _ (T.setTop (mkF m 22 #[.val (.ref a1), .val (.int i1), .val (.ref d2), .val (.int n3), .val (.int i4), s5] [(.int i4), (.ref d2)]))
      have hlt : i4.toInt < n3.toInt := Int32.lt_iff_toInt_lt.mp c1
      have hnn : ¬ i4 < 0 := by rw [Int32.lt_iff_toInt_lt]; show ¬ _ < (0 : Int); omega
      have hc : (i4.toNatClampNeg : Int) = i4.toInt := by rw [Int32.toNatClampNeg]; omega
      obtain ⟨xv, hxv⟩ : ∃ x, xs[i4.toNatClampNeg]? = some x := ⟨_, List.getElem?_eq_getElem (by omega)⟩
      refine Done.step (ldZ X0 hx hZ e0 A2 (j := i4) (x := (.int xv)) hnn (by rw [List.getElem?_map, hxv]; rfl) (g := (mkF m 22 #[.val (.ref a1), .val (.int i1), .val (.ref d2), .val (.int n3), .val (.int i4), s5] [(.int i4), (.ref d2)])) rfl rfl (hb hby d5_22)) ?_
      show Done p e below s _ _ _ (T.setTop (mkF m 23 #[.val (.ref a1), .val (.int i1), .val (.ref d2), .val (.int n3), .val (.int i4), s5] [(.int xv)]))
      refine Done.step (fun t k => XS.istore X0.here hx rfl (hb hby d5_23) rfl (l' := #[.val (.ref a1), .val (.int i1), .val (.ref d2), .val (.int n3), .val (.int i4), .val (.int xv)]) (by rcases hs5 with rfl | ⟨z, rfl⟩ <;> rfl) k) ?_
      show Done p e below s _ _ _ (T.setTop (mkF m 25 #[.val (.ref a1), .val (.int i1), .val (.ref d2), .val (.int n3), .val (.int i4), .val (.int xv)] []))
      refine Done.step (fun t k => XS.iload X0.here hx rfl (hb hby d5_25) rfl k) ?_
      show Done p e below s _ _ _ (T.setTop (mkF m 27 #[.val (.ref a1), .val (.int i1), .val (.ref d2), .val (.int n3), .val (.int i4), .val (.int xv)] [(.int xv)]))
      by_cases c2 : xv = (0 : Int32)
      · refine Done.step (fun t k => XS.ifYes X0.here hx rfl (pc0 := 27) (pc' := 33) rfl (hb hby d5_27) rfl ((if0 _ _).trans (teq c2).1) (by decide) (by decide) k) ?_
        show Done p e below s _ _ _ (T.setTop (mkF m 33 #[.val (.ref a1), .val (.int i1), .val (.ref d2), .val (.int n3), .val (.int i4), .val (.int xv)] []))
        refine Done.step (fun t k => XS.iinc X0.here hx rfl (hb hby d5_33) rfl (l' := #[.val (.ref a1), .val (.int i1), .val (.ref d2), .val (.int n3), .val (.int (i4 + (1 : Int32))), .val (.int xv)]) rfl k) ?_
        show Done p e below s _ _ _ (T.setTop (mkF m 36 #[.val (.ref a1), .val (.int i1), .val (.ref d2), .val (.int n3), .val (.int (i4 + (1 : Int32))), .val (.int xv)] []))
        refine Done.step (fun t k => XS.goto X0.here hx rfl (pc0 := 36) (pc' := 13) rfl (hb hby d5_36) (by decide) (by decide) k) ?_
        show Done p e below s _ _ _ (T.setTop (mkF m 13 #[.val (.ref a1), .val (.int i1), .val (.ref d2), .val (.int n3), .val (.int (i4 + (1 : Int32))), .val (.int xv)] []))
        have hip : (i4 + (1 : Int32)).toInt = i4.toInt + 1 := by have a := c_iadd i4 (1 : Int32); have r := rng32 (i4 + (1 : Int32)); have r2 := rng32 n3; have e1 : (1 : Int32).toInt = 1 := rfl; omega
        have hcp : (i4 + (1 : Int32)).toNatClampNeg = i4.toNatClampNeg + 1 := by rw [Int32.toNatClampNeg, Int32.toNatClampNeg]; omega
        exact ih T _ i1 (i4 + (1 : Int32)) (.val (.int xv)) X0 N0 Z0 e0 (Or.inr ⟨_, rfl⟩) (by omega) (by omega) (by rw [hcp]; rw [own_drop hxv] at hacc; unfold CN at hacc ⊢; rw [List.foldl_cons, if_pos c2] at hacc; exact hacc)
      · refine Done.step (fun t k => XS.ifNo X0.here hx rfl (hb hby d5_27) rfl ((if0 _ _).trans (feq c2).1) k) ?_
        show Done p e below s _ _ _ (T.setTop (mkF m 30 #[.val (.ref a1), .val (.int i1), .val (.ref d2), .val (.int n3), .val (.int i4), .val (.int xv)] []))
        refine Done.step (fun t k => XS.iinc X0.here hx rfl (hb hby d5_30) rfl (l' := #[.val (.ref a1), .val (.int (i1 + (1 : Int32))), .val (.ref d2), .val (.int n3), .val (.int i4), .val (.int xv)]) rfl k) ?_
        show Done p e below s _ _ _ (T.setTop (mkF m 33 #[.val (.ref a1), .val (.int (i1 + (1 : Int32))), .val (.ref d2), .val (.int n3), .val (.int i4), .val (.int xv)] []))
        refine Done.step (fun t k => XS.iinc X0.here hx rfl (hb hby d5_33) rfl (l' := #[.val (.ref a1), .val (.int (i1 + (1 : Int32))), .val (.ref d2), .val (.int n3), .val (.int (i4 + (1 : Int32))), .val (.int xv)]) rfl k) ?_
        show Done p e below s _ _ _ (T.setTop (mkF m 36 #[.val (.ref a1), .val (.int (i1 + (1 : Int32))), .val (.ref d2), .val (.int n3), .val (.int (i4 + (1 : Int32))), .val (.int xv)] []))
        refine Done.step (fun t k => XS.goto X0.here hx rfl (pc0 := 36) (pc' := 13) rfl (hb hby d5_36) (by decide) (by decide) k) ?_
        show Done p e below s _ _ _ (T.setTop (mkF m 13 #[.val (.ref a1), .val (.int (i1 + (1 : Int32))), .val (.ref d2), .val (.int n3), .val (.int (i4 + (1 : Int32))), .val (.int xv)] []))
        have hip : (i4 + (1 : Int32)).toInt = i4.toInt + 1 := by have a := c_iadd i4 (1 : Int32); have r := rng32 (i4 + (1 : Int32)); have r2 := rng32 n3; have e1 : (1 : Int32).toInt = 1 := rfl; omega
        have hcp : (i4 + (1 : Int32)).toNatClampNeg = i4.toNatClampNeg + 1 := by rw [Int32.toNatClampNeg, Int32.toNatClampNeg]; omega
        exact ih T _ (i1 + (1 : Int32)) (i4 + (1 : Int32)) (.val (.int xv)) X0 N0 Z0 e0 (Or.inr ⟨_, rfl⟩) (by omega) (by omega) (by rw [hcp]; rw [own_drop hxv] at hacc; unfold CN at hacc ⊢; rw [List.foldl_cons, if_neg c2] at hacc; exact hacc)
    · refine Done.step (fun t k => XS.icmpYes X0.here hx rfl (pc0 := 16) (pc' := 39) rfl (hb hby d5_16) rfl (flt c1).2.1 (by decide) (by decide) k) ?_
      show Done p e below s _ _ _ (T.setTop (mkF m 39 #[.val (.ref a1), .val (.int i1), .val (.ref d2), .val (.int n3), .val (.int i4), s5] []))
      refine Done.step (fun t k => XS.iloadN X0.here hx rfl (hb hby d5_39) rfl k) ?_
      show Done p e below s _ _ _ (T.setTop (mkF m 40 #[.val (.ref a1), .val (.int i1), .val (.ref d2), .val (.int n3), .val (.int i4), s5] [(.int i1)]))
      have hge : n3.toInt ≤ i4.toInt := by have := Int.not_lt.mp (fun q => c1 (Int32.lt_iff_toInt_lt.mpr q)); omega
      have hc : (i4.toNatClampNeg : Int) = i4.toInt := by rw [Int32.toNatClampNeg]; omega
      rw [List.drop_eq_nil_of_le (by omega)] at hacc
      exact Done.int X0 hx hlk hret (hb hby d5_40) (by decide) (by decide) ⟨by rw [← hacc] <;> rfl, N0, e0⟩
theorem d5_0 : decode prog_46_method_6_code 0 = .ok (.iconst 0, 1) := by decide +kernel
theorem d5_1 : decode prog_46_method_6_code 1 = .ok (.istore_n 1, 1) := by decide +kernel
theorem d5_2 : decode prog_46_method_6_code 2 = .ok (.aload_n 0, 1) := by decide +kernel
theorem d5_3 : decode prog_46_method_6_code 3 = .ok (.getfield 31, 3) := by decide +kernel
theorem d5_6 : decode prog_46_method_6_code 6 = .ok (.astore_n 2, 1) := by decide +kernel
theorem d5_7 : decode prog_46_method_6_code 7 = .ok (.aload_n 2, 1) := by decide +kernel
theorem d5_8 : decode prog_46_method_6_code 8 = .ok (.arraylength, 1) := by decide +kernel
theorem d5_9 : decode prog_46_method_6_code 9 = .ok (.istore_n 3, 1) := by decide +kernel
theorem d5_10 : decode prog_46_method_6_code 10 = .ok (.iconst 0, 1) := by decide +kernel
theorem d5_11 : decode prog_46_method_6_code 11 = .ok (.istore 4, 2) := by decide +kernel
theorem pn_5 : plainName "com/example/wardsum/wardsum/model/GridMap" = true := by first | (simp [plainName, overriddenIn]; done) | decide +kernel
theorem ef_5 (m : MethodId) (a1 : Addr) : entryFrame m #[(.ref a1)] 6 = mkF m 0 #[.val (.ref a1), .unset, .unset, .unset, .unset, .unset] [] := by first | (simp [entryFrame, mkF, argsToLocals, Value.category]; done) | rfl
def Qrm5 (Z : State) (a1 : Addr) (d2 : Addr) (xs : List Int32) (h0 : Heap) (n0 : Nat) : Option Value → Heap → List Loc → Prop := fun v h L => v = some (.int (CN (0 : Int32) xs)) ∧ Fr n0 L ∧ h = h0
set_option maxRecDepth 65536 in
set_option maxHeartbeats 40000000 in
theorem rm5 (l : Launch) (Z : State) (a0 : Array Value) (hw : ∀ d ∈ tables_1, d.before a0 Z = true) (ws : List Jvm.Cond) (a1 : Addr) (d2 : Addr) (xs : List Int32) (h0 : Heap) (n0 : Nat) (Z0 : n0 ≤ h0.size) (Fd : Fld Z h0 a1 "com/example/wardsum/wardsum/model/GridMap" "free" "[Z" (.ref d2)) (A2 : Ax Z h0 d2 .boolean (xs.map Value.int)) (hlen : xs.length ≤ 12) :
    MetFree l (⟨"com/example/wardsum/wardsum/model/GridMap", "freeCellCount", "()I"⟩ : MethodName) (head1 (Jvm.Cond.code (⟨"com/example/wardsum/wardsum/model/GridMap", "freeCellCount", "()I"⟩ : MethodName) prog_46_method_6_code 6 (some .int) :: ws) ({ frames := 0, cells := 0, slots := 0, locals := 0 } : Room)) (fun a U => a = #[(.ref a1)] ∧ Z.Warmed39 U.vm ∧ U.heap = h0) (fun _ _ _ _ _ => True) (fun _ U o U' => ∃ v L, o = .returned v ∧ Qrm5 Z a1 d2 xs h0 n0 v U'.heap L ∧ FrameEnd U o U' L ({ frames := 0, cells := 0, slots := 0, locals := 0 } : Room).cells ({ frames := 0, cells := 0, slots := 0, locals := 0 } : Room).slots) := by
  refine MetFree.of_bodySF (plainFor_of_name pn_5) hisR ?_
  intro p e s m args below meth c s₁ Bd hml0 hP hK
  obtain ⟨rfl, hZ, hh⟩ := hP
  have hx := Bd.exec
  have hby := Bd.bytes
  have hml : c.maxLocals = 6 := hml0
  have hown : s.vm.findClass "com/example/wardsum/wardsum/model/GridMap" = some m.cls := findClass_of_methodNamed Bd.named
  have hnm := (name_of_methodNamed Bd.named Bd.method).1
  have hlk : meth.locks = false := BodyLoose.notSynchronized Bd
  have hret := Bd.returns
  have X0 : Stand p l e ({ frames := 0, cells := 0, slots := 0, locals := 0 } : Room) s m #[(.ref a1)] below meth c s₁ [] 0 0 := Stand.of_body Bd
  have e0 : s₁.heap = h0 := by rw [← hh, Bd.state]; rfl
  have N0 := Fr.nil n0
  show Done p e below s (Qrm5 Z a1 d2 xs h0 n0) ({ frames := 0, cells := 0, slots := 0, locals := 0 } : Room).cells ({ frames := 0, cells := 0, slots := 0, locals := 0 } : Room).slots (s₁.setTop (entryFrame m #[(.ref a1)] 6))
  refine Done.step (fun t k => castTop (ef_5 m a1) k) ?_
  show Done p e below s _ _ _ (s₁.setTop (mkF m 0 #[.val (.ref a1), .unset, .unset, .unset, .unset, .unset] []))
  refine Done.step (fun t k => XS.iconst X0.here hx rfl (hb hby d5_0) k) ?_
  show Done p e below s _ _ _ (s₁.setTop (mkF m 1 #[.val (.ref a1), .unset, .unset, .unset, .unset, .unset] [(.int (0 : Int32))]))
  refine Done.step (fun t k => XS.istoreN X0.here hx rfl (hb hby d5_1) rfl (l' := #[.val (.ref a1), .val (.int (0 : Int32)), .unset, .unset, .unset, .unset]) rfl k) ?_
  show Done p e below s _ _ _ (s₁.setTop (mkF m 2 #[.val (.ref a1), .val (.int (0 : Int32)), .unset, .unset, .unset, .unset] []))
  refine Done.step (fun t k => XS.aloadN X0.here hx rfl (hb hby d5_2) rfl rfl k) ?_
  show Done p e below s _ _ _ (s₁.setTop (mkF m 3 #[.val (.ref a1), .val (.int (0 : Int32)), .unset, .unset, .unset, .unset] [(.ref a1)]))
  obtain ⟨T1, X1, e1, st1⟩ := getF X0 hx hZ hown (host := "") (Or.inl (hw _ (List.mem_of_getElem? (i := 28) rfl))) Via.refl e0 Fd (g := (mkF m 3 #[.val (.ref a1), .val (.int (0 : Int32)), .unset, .unset, .unset, .unset] [(.ref a1)])) rfl rfl (hb hby d5_3)
  refine Done.step st1 ?_
  show Done p e below s _ _ _ (T1.setTop (mkF m 6 #[.val (.ref a1), .val (.int (0 : Int32)), .unset, .unset, .unset, .unset] [(.ref d2)]))
  refine Done.step (fun t k => XS.astoreN X1.here hx rfl (hb hby d5_6) rfl rfl (l' := #[.val (.ref a1), .val (.int (0 : Int32)), .val (.ref d2), .unset, .unset, .unset]) rfl k) ?_
  show Done p e below s _ _ _ (T1.setTop (mkF m 7 #[.val (.ref a1), .val (.int (0 : Int32)), .val (.ref d2), .unset, .unset, .unset] []))
  refine Done.step (fun t k => XS.aloadN X1.here hx rfl (hb hby d5_7) rfl rfl k) ?_
  show Done p e below s _ _ _ (T1.setTop (mkF m 8 #[.val (.ref a1), .val (.int (0 : Int32)), .val (.ref d2), .unset, .unset, .unset] [(.ref d2)]))
  refine Done.step (lenA X1 hx hZ e1 A2 (n := xs.length.toInt32) (by rw [List.length_map]) (g := (mkF m 8 #[.val (.ref a1), .val (.int (0 : Int32)), .val (.ref d2), .unset, .unset, .unset] [(.ref d2)])) rfl rfl (hb hby d5_8)) ?_
  show Done p e below s _ _ _ (T1.setTop (mkF m 9 #[.val (.ref a1), .val (.int (0 : Int32)), .val (.ref d2), .unset, .unset, .unset] [(.int xs.length.toInt32)]))
  refine Done.step (fun t k => XS.istoreN X1.here hx rfl (hb hby d5_9) rfl (l' := #[.val (.ref a1), .val (.int (0 : Int32)), .val (.ref d2), .val (.int xs.length.toInt32), .unset, .unset]) rfl k) ?_
  show Done p e below s _ _ _ (T1.setTop (mkF m 10 #[.val (.ref a1), .val (.int (0 : Int32)), .val (.ref d2), .val (.int xs.length.toInt32), .unset, .unset] []))
  refine Done.step (fun t k => XS.iconst X1.here hx rfl (hb hby d5_10) k) ?_
  show Done p e below s _ _ _ (T1.setTop (mkF m 11 #[.val (.ref a1), .val (.int (0 : Int32)), .val (.ref d2), .val (.int xs.length.toInt32), .unset, .unset] [(.int (0 : Int32))]))
  refine Done.step (fun t k => XS.istore X1.here hx rfl (hb hby d5_11) rfl (l' := #[.val (.ref a1), .val (.int (0 : Int32)), .val (.ref d2), .val (.int xs.length.toInt32), .val (.int (0 : Int32)), .unset]) rfl k) ?_
  show Done p e below s _ _ _ (T1.setTop (mkF m 13 #[.val (.ref a1), .val (.int (0 : Int32)), .val (.ref d2), .val (.int xs.length.toInt32), .val (.int (0 : Int32)), .unset] []))
  have hl3 : xs.length.toInt32.toInt = xs.length := len_toInt (by omega)
  exact lp13 a1 d2 xs.length.toInt32 xs hx hZ hw hby hml hown hlk hret hnm A2 hl3 (xs.length + 1)  T1 _ (0 : Int32) (0 : Int32) .unset X1 N0 Z0 e1 (Or.inl rfl) (by rw [hl3]; show ((xs.length : Int) - 0).toNat < _; omega) (by decide) (by rw [show (0 : Int32).toNatClampNeg = 0 from rfl, List.drop_zero])
theorem own_fit (m : Int32) (n i : Nat) : ∀ x ∈ VL m n i, fits .boolean (.int x) = true := by
  intro x hx
  obtain ⟨j, -, rfl⟩ := List.mem_map.mp hx
  split
  · exact fits_nar_bool _
  · rfl
theorem own_bv (m : Int32) (j : Nat) : BV m j = if (F1 m j.toInt32) = 0 then 0 else 1 := by
  unfold BV F1
  split <;> rfl
theorem CN_cons (acc x : Int32) (xs : List Int32) : CN acc (x :: xs) = CN (acc + (if x = 0 then 0 else 1)) xs := by
  unfold CN
  rw [List.foldl_cons]
  split <;> simp
theorem CN_nil (acc : Int32) : CN acc [] = acc := rfl
theorem own_tv (m : Int32) (j : Nat) : (if BV m j = 0 then (0 : Int32) else 1) = BV m j := by
  rw [own_bv]
  split <;> rfl
theorem own_o1_0 (m : Int32) : (F4 m (0 : Int32) (1 : Int32)) = BV m 0 := by unfold F4; rw [if_pos (by decide), own_bv]; rfl
theorem own_o1_1 (m : Int32) : (F4 m (1 : Int32) (1 : Int32)) = 0 := by unfold F4; rw [if_neg (by decide)]
theorem own_o1_2 (m : Int32) : (F4 m (2 : Int32) (1 : Int32)) = 0 := by unfold F4; rw [if_neg (by decide)]
theorem own_o1_3 (m : Int32) : (F4 m (3 : Int32) (1 : Int32)) = 0 := by unfold F4; rw [if_neg (by decide)]
theorem own_o1_4 (m : Int32) : (F4 m (4 : Int32) (1 : Int32)) = 0 := by unfold F4; rw [if_neg (by decide)]
theorem own_o1_5 (m : Int32) : (F4 m (5 : Int32) (1 : Int32)) = 0 := by unfold F4; rw [if_neg (by decide)]
theorem own_o1_6 (m : Int32) : (F4 m (6 : Int32) (1 : Int32)) = 0 := by unfold F4; rw [if_neg (by decide)]
theorem own_o1_7 (m : Int32) : (F4 m (7 : Int32) (1 : Int32)) = 0 := by unfold F4; rw [if_neg (by decide)]
theorem own_o1_8 (m : Int32) : (F4 m (8 : Int32) (1 : Int32)) = 0 := by unfold F4; rw [if_neg (by decide)]
theorem own_o1_9 (m : Int32) : (F4 m (9 : Int32) (1 : Int32)) = 0 := by unfold F4; rw [if_neg (by decide)]
theorem own_o1_10 (m : Int32) : (F4 m (10 : Int32) (1 : Int32)) = 0 := by unfold F4; rw [if_neg (by decide)]
theorem own_o1_11 (m : Int32) : (F4 m (11 : Int32) (1 : Int32)) = 0 := by unfold F4; rw [if_neg (by decide)]
theorem own_o2_0 (m : Int32) : (F4 m (0 : Int32) (2 : Int32)) = BV m 0 := by unfold F4; rw [if_pos (by decide), own_bv]; rfl
theorem own_o2_1 (m : Int32) : (F4 m (1 : Int32) (2 : Int32)) = BV m 1 := by unfold F4; rw [if_pos (by decide), own_bv]; rfl
theorem own_o2_2 (m : Int32) : (F4 m (2 : Int32) (2 : Int32)) = 0 := by unfold F4; rw [if_neg (by decide)]
theorem own_o2_3 (m : Int32) : (F4 m (3 : Int32) (2 : Int32)) = 0 := by unfold F4; rw [if_neg (by decide)]
theorem own_o2_4 (m : Int32) : (F4 m (4 : Int32) (2 : Int32)) = 0 := by unfold F4; rw [if_neg (by decide)]
theorem own_o2_5 (m : Int32) : (F4 m (5 : Int32) (2 : Int32)) = 0 := by unfold F4; rw [if_neg (by decide)]
theorem own_o2_6 (m : Int32) : (F4 m (6 : Int32) (2 : Int32)) = 0 := by unfold F4; rw [if_neg (by decide)]
theorem own_o2_7 (m : Int32) : (F4 m (7 : Int32) (2 : Int32)) = 0 := by unfold F4; rw [if_neg (by decide)]
theorem own_o2_8 (m : Int32) : (F4 m (8 : Int32) (2 : Int32)) = 0 := by unfold F4; rw [if_neg (by decide)]
theorem own_o2_9 (m : Int32) : (F4 m (9 : Int32) (2 : Int32)) = 0 := by unfold F4; rw [if_neg (by decide)]
theorem own_o2_10 (m : Int32) : (F4 m (10 : Int32) (2 : Int32)) = 0 := by unfold F4; rw [if_neg (by decide)]
theorem own_o2_11 (m : Int32) : (F4 m (11 : Int32) (2 : Int32)) = 0 := by unfold F4; rw [if_neg (by decide)]
theorem own_o3_0 (m : Int32) : (F4 m (0 : Int32) (3 : Int32)) = BV m 0 := by unfold F4; rw [if_pos (by decide), own_bv]; rfl
theorem own_o3_1 (m : Int32) : (F4 m (1 : Int32) (3 : Int32)) = BV m 1 := by unfold F4; rw [if_pos (by decide), own_bv]; rfl
theorem own_o3_2 (m : Int32) : (F4 m (2 : Int32) (3 : Int32)) = BV m 2 := by unfold F4; rw [if_pos (by decide), own_bv]; rfl
theorem own_o3_3 (m : Int32) : (F4 m (3 : Int32) (3 : Int32)) = 0 := by unfold F4; rw [if_neg (by decide)]
theorem own_o3_4 (m : Int32) : (F4 m (4 : Int32) (3 : Int32)) = 0 := by unfold F4; rw [if_neg (by decide)]
theorem own_o3_5 (m : Int32) : (F4 m (5 : Int32) (3 : Int32)) = 0 := by unfold F4; rw [if_neg (by decide)]
theorem own_o3_6 (m : Int32) : (F4 m (6 : Int32) (3 : Int32)) = 0 := by unfold F4; rw [if_neg (by decide)]
theorem own_o3_7 (m : Int32) : (F4 m (7 : Int32) (3 : Int32)) = 0 := by unfold F4; rw [if_neg (by decide)]
theorem own_o3_8 (m : Int32) : (F4 m (8 : Int32) (3 : Int32)) = 0 := by unfold F4; rw [if_neg (by decide)]
theorem own_o3_9 (m : Int32) : (F4 m (9 : Int32) (3 : Int32)) = 0 := by unfold F4; rw [if_neg (by decide)]
theorem own_o3_10 (m : Int32) : (F4 m (10 : Int32) (3 : Int32)) = 0 := by unfold F4; rw [if_neg (by decide)]
theorem own_o3_11 (m : Int32) : (F4 m (11 : Int32) (3 : Int32)) = 0 := by unfold F4; rw [if_neg (by decide)]
theorem own_o4_0 (m : Int32) : (F4 m (0 : Int32) (4 : Int32)) = BV m 0 := by unfold F4; rw [if_pos (by decide), own_bv]; rfl
theorem own_o4_1 (m : Int32) : (F4 m (1 : Int32) (4 : Int32)) = BV m 1 := by unfold F4; rw [if_pos (by decide), own_bv]; rfl
theorem own_o4_2 (m : Int32) : (F4 m (2 : Int32) (4 : Int32)) = BV m 2 := by unfold F4; rw [if_pos (by decide), own_bv]; rfl
theorem own_o4_3 (m : Int32) : (F4 m (3 : Int32) (4 : Int32)) = BV m 3 := by unfold F4; rw [if_pos (by decide), own_bv]; rfl
theorem own_o4_4 (m : Int32) : (F4 m (4 : Int32) (4 : Int32)) = 0 := by unfold F4; rw [if_neg (by decide)]
theorem own_o4_5 (m : Int32) : (F4 m (5 : Int32) (4 : Int32)) = 0 := by unfold F4; rw [if_neg (by decide)]
theorem own_o4_6 (m : Int32) : (F4 m (6 : Int32) (4 : Int32)) = 0 := by unfold F4; rw [if_neg (by decide)]
theorem own_o4_7 (m : Int32) : (F4 m (7 : Int32) (4 : Int32)) = 0 := by unfold F4; rw [if_neg (by decide)]
theorem own_o4_8 (m : Int32) : (F4 m (8 : Int32) (4 : Int32)) = 0 := by unfold F4; rw [if_neg (by decide)]
theorem own_o4_9 (m : Int32) : (F4 m (9 : Int32) (4 : Int32)) = 0 := by unfold F4; rw [if_neg (by decide)]
theorem own_o4_10 (m : Int32) : (F4 m (10 : Int32) (4 : Int32)) = 0 := by unfold F4; rw [if_neg (by decide)]
theorem own_o4_11 (m : Int32) : (F4 m (11 : Int32) (4 : Int32)) = 0 := by unfold F4; rw [if_neg (by decide)]
theorem own_o5_0 (m : Int32) : (F4 m (0 : Int32) (5 : Int32)) = BV m 0 := by unfold F4; rw [if_pos (by decide), own_bv]; rfl
theorem own_o5_1 (m : Int32) : (F4 m (1 : Int32) (5 : Int32)) = BV m 1 := by unfold F4; rw [if_pos (by decide), own_bv]; rfl
theorem own_o5_2 (m : Int32) : (F4 m (2 : Int32) (5 : Int32)) = BV m 2 := by unfold F4; rw [if_pos (by decide), own_bv]; rfl
theorem own_o5_3 (m : Int32) : (F4 m (3 : Int32) (5 : Int32)) = BV m 3 := by unfold F4; rw [if_pos (by decide), own_bv]; rfl
theorem own_o5_4 (m : Int32) : (F4 m (4 : Int32) (5 : Int32)) = BV m 4 := by unfold F4; rw [if_pos (by decide), own_bv]; rfl
theorem own_o5_5 (m : Int32) : (F4 m (5 : Int32) (5 : Int32)) = 0 := by unfold F4; rw [if_neg (by decide)]
theorem own_o5_6 (m : Int32) : (F4 m (6 : Int32) (5 : Int32)) = 0 := by unfold F4; rw [if_neg (by decide)]
theorem own_o5_7 (m : Int32) : (F4 m (7 : Int32) (5 : Int32)) = 0 := by unfold F4; rw [if_neg (by decide)]
theorem own_o5_8 (m : Int32) : (F4 m (8 : Int32) (5 : Int32)) = 0 := by unfold F4; rw [if_neg (by decide)]
theorem own_o5_9 (m : Int32) : (F4 m (9 : Int32) (5 : Int32)) = 0 := by unfold F4; rw [if_neg (by decide)]
theorem own_o5_10 (m : Int32) : (F4 m (10 : Int32) (5 : Int32)) = 0 := by unfold F4; rw [if_neg (by decide)]
theorem own_o5_11 (m : Int32) : (F4 m (11 : Int32) (5 : Int32)) = 0 := by unfold F4; rw [if_neg (by decide)]
theorem own_o6_0 (m : Int32) : (F4 m (0 : Int32) (6 : Int32)) = BV m 0 := by unfold F4; rw [if_pos (by decide), own_bv]; rfl
theorem own_o6_1 (m : Int32) : (F4 m (1 : Int32) (6 : Int32)) = BV m 1 := by unfold F4; rw [if_pos (by decide), own_bv]; rfl
theorem own_o6_2 (m : Int32) : (F4 m (2 : Int32) (6 : Int32)) = BV m 2 := by unfold F4; rw [if_pos (by decide), own_bv]; rfl
theorem own_o6_3 (m : Int32) : (F4 m (3 : Int32) (6 : Int32)) = BV m 3 := by unfold F4; rw [if_pos (by decide), own_bv]; rfl
theorem own_o6_4 (m : Int32) : (F4 m (4 : Int32) (6 : Int32)) = BV m 4 := by unfold F4; rw [if_pos (by decide), own_bv]; rfl
theorem own_o6_5 (m : Int32) : (F4 m (5 : Int32) (6 : Int32)) = BV m 5 := by unfold F4; rw [if_pos (by decide), own_bv]; rfl
theorem own_o6_6 (m : Int32) : (F4 m (6 : Int32) (6 : Int32)) = 0 := by unfold F4; rw [if_neg (by decide)]
theorem own_o6_7 (m : Int32) : (F4 m (7 : Int32) (6 : Int32)) = 0 := by unfold F4; rw [if_neg (by decide)]
theorem own_o6_8 (m : Int32) : (F4 m (8 : Int32) (6 : Int32)) = 0 := by unfold F4; rw [if_neg (by decide)]
theorem own_o6_9 (m : Int32) : (F4 m (9 : Int32) (6 : Int32)) = 0 := by unfold F4; rw [if_neg (by decide)]
theorem own_o6_10 (m : Int32) : (F4 m (10 : Int32) (6 : Int32)) = 0 := by unfold F4; rw [if_neg (by decide)]
theorem own_o6_11 (m : Int32) : (F4 m (11 : Int32) (6 : Int32)) = 0 := by unfold F4; rw [if_neg (by decide)]
theorem own_o7_0 (m : Int32) : (F4 m (0 : Int32) (7 : Int32)) = BV m 0 := by unfold F4; rw [if_pos (by decide), own_bv]; rfl
theorem own_o7_1 (m : Int32) : (F4 m (1 : Int32) (7 : Int32)) = BV m 1 := by unfold F4; rw [if_pos (by decide), own_bv]; rfl
theorem own_o7_2 (m : Int32) : (F4 m (2 : Int32) (7 : Int32)) = BV m 2 := by unfold F4; rw [if_pos (by decide), own_bv]; rfl
theorem own_o7_3 (m : Int32) : (F4 m (3 : Int32) (7 : Int32)) = BV m 3 := by unfold F4; rw [if_pos (by decide), own_bv]; rfl
theorem own_o7_4 (m : Int32) : (F4 m (4 : Int32) (7 : Int32)) = BV m 4 := by unfold F4; rw [if_pos (by decide), own_bv]; rfl
theorem own_o7_5 (m : Int32) : (F4 m (5 : Int32) (7 : Int32)) = BV m 5 := by unfold F4; rw [if_pos (by decide), own_bv]; rfl
theorem own_o7_6 (m : Int32) : (F4 m (6 : Int32) (7 : Int32)) = BV m 6 := by unfold F4; rw [if_pos (by decide), own_bv]; rfl
theorem own_o7_7 (m : Int32) : (F4 m (7 : Int32) (7 : Int32)) = 0 := by unfold F4; rw [if_neg (by decide)]
theorem own_o7_8 (m : Int32) : (F4 m (8 : Int32) (7 : Int32)) = 0 := by unfold F4; rw [if_neg (by decide)]
theorem own_o7_9 (m : Int32) : (F4 m (9 : Int32) (7 : Int32)) = 0 := by unfold F4; rw [if_neg (by decide)]
theorem own_o7_10 (m : Int32) : (F4 m (10 : Int32) (7 : Int32)) = 0 := by unfold F4; rw [if_neg (by decide)]
theorem own_o7_11 (m : Int32) : (F4 m (11 : Int32) (7 : Int32)) = 0 := by unfold F4; rw [if_neg (by decide)]
theorem own_o8_0 (m : Int32) : (F4 m (0 : Int32) (8 : Int32)) = BV m 0 := by unfold F4; rw [if_pos (by decide), own_bv]; rfl
theorem own_o8_1 (m : Int32) : (F4 m (1 : Int32) (8 : Int32)) = BV m 1 := by unfold F4; rw [if_pos (by decide), own_bv]; rfl
theorem own_o8_2 (m : Int32) : (F4 m (2 : Int32) (8 : Int32)) = BV m 2 := by unfold F4; rw [if_pos (by decide), own_bv]; rfl
theorem own_o8_3 (m : Int32) : (F4 m (3 : Int32) (8 : Int32)) = BV m 3 := by unfold F4; rw [if_pos (by decide), own_bv]; rfl
theorem own_o8_4 (m : Int32) : (F4 m (4 : Int32) (8 : Int32)) = BV m 4 := by unfold F4; rw [if_pos (by decide), own_bv]; rfl
theorem own_o8_5 (m : Int32) : (F4 m (5 : Int32) (8 : Int32)) = BV m 5 := by unfold F4; rw [if_pos (by decide), own_bv]; rfl
theorem own_o8_6 (m : Int32) : (F4 m (6 : Int32) (8 : Int32)) = BV m 6 := by unfold F4; rw [if_pos (by decide), own_bv]; rfl
theorem own_o8_7 (m : Int32) : (F4 m (7 : Int32) (8 : Int32)) = BV m 7 := by unfold F4; rw [if_pos (by decide), own_bv]; rfl
theorem own_o8_8 (m : Int32) : (F4 m (8 : Int32) (8 : Int32)) = 0 := by unfold F4; rw [if_neg (by decide)]
theorem own_o8_9 (m : Int32) : (F4 m (9 : Int32) (8 : Int32)) = 0 := by unfold F4; rw [if_neg (by decide)]
theorem own_o8_10 (m : Int32) : (F4 m (10 : Int32) (8 : Int32)) = 0 := by unfold F4; rw [if_neg (by decide)]
theorem own_o8_11 (m : Int32) : (F4 m (11 : Int32) (8 : Int32)) = 0 := by unfold F4; rw [if_neg (by decide)]
theorem own_o9_0 (m : Int32) : (F4 m (0 : Int32) (9 : Int32)) = BV m 0 := by unfold F4; rw [if_pos (by decide), own_bv]; rfl
theorem own_o9_1 (m : Int32) : (F4 m (1 : Int32) (9 : Int32)) = BV m 1 := by unfold F4; rw [if_pos (by decide), own_bv]; rfl
theorem own_o9_2 (m : Int32) : (F4 m (2 : Int32) (9 : Int32)) = BV m 2 := by unfold F4; rw [if_pos (by decide), own_bv]; rfl
theorem own_o9_3 (m : Int32) : (F4 m (3 : Int32) (9 : Int32)) = BV m 3 := by unfold F4; rw [if_pos (by decide), own_bv]; rfl
theorem own_o9_4 (m : Int32) : (F4 m (4 : Int32) (9 : Int32)) = BV m 4 := by unfold F4; rw [if_pos (by decide), own_bv]; rfl
theorem own_o9_5 (m : Int32) : (F4 m (5 : Int32) (9 : Int32)) = BV m 5 := by unfold F4; rw [if_pos (by decide), own_bv]; rfl
theorem own_o9_6 (m : Int32) : (F4 m (6 : Int32) (9 : Int32)) = BV m 6 := by unfold F4; rw [if_pos (by decide), own_bv]; rfl
theorem own_o9_7 (m : Int32) : (F4 m (7 : Int32) (9 : Int32)) = BV m 7 := by unfold F4; rw [if_pos (by decide), own_bv]; rfl
theorem own_o9_8 (m : Int32) : (F4 m (8 : Int32) (9 : Int32)) = BV m 8 := by unfold F4; rw [if_pos (by decide), own_bv]; rfl
theorem own_o9_9 (m : Int32) : (F4 m (9 : Int32) (9 : Int32)) = 0 := by unfold F4; rw [if_neg (by decide)]
theorem own_o9_10 (m : Int32) : (F4 m (10 : Int32) (9 : Int32)) = 0 := by unfold F4; rw [if_neg (by decide)]
theorem own_o9_11 (m : Int32) : (F4 m (11 : Int32) (9 : Int32)) = 0 := by unfold F4; rw [if_neg (by decide)]
theorem own_o10_0 (m : Int32) : (F4 m (0 : Int32) (10 : Int32)) = BV m 0 := by unfold F4; rw [if_pos (by decide), own_bv]; rfl
theorem own_o10_1 (m : Int32) : (F4 m (1 : Int32) (10 : Int32)) = BV m 1 := by unfold F4; rw [if_pos (by decide), own_bv]; rfl
theorem own_o10_2 (m : Int32) : (F4 m (2 : Int32) (10 : Int32)) = BV m 2 := by unfold F4; rw [if_pos (by decide), own_bv]; rfl
theorem own_o10_3 (m : Int32) : (F4 m (3 : Int32) (10 : Int32)) = BV m 3 := by unfold F4; rw [if_pos (by decide), own_bv]; rfl
theorem own_o10_4 (m : Int32) : (F4 m (4 : Int32) (10 : Int32)) = BV m 4 := by unfold F4; rw [if_pos (by decide), own_bv]; rfl
theorem own_o10_5 (m : Int32) : (F4 m (5 : Int32) (10 : Int32)) = BV m 5 := by unfold F4; rw [if_pos (by decide), own_bv]; rfl
theorem own_o10_6 (m : Int32) : (F4 m (6 : Int32) (10 : Int32)) = BV m 6 := by unfold F4; rw [if_pos (by decide), own_bv]; rfl
theorem own_o10_7 (m : Int32) : (F4 m (7 : Int32) (10 : Int32)) = BV m 7 := by unfold F4; rw [if_pos (by decide), own_bv]; rfl
theorem own_o10_8 (m : Int32) : (F4 m (8 : Int32) (10 : Int32)) = BV m 8 := by unfold F4; rw [if_pos (by decide), own_bv]; rfl
theorem own_o10_9 (m : Int32) : (F4 m (9 : Int32) (10 : Int32)) = BV m 9 := by unfold F4; rw [if_pos (by decide), own_bv]; rfl
theorem own_o10_10 (m : Int32) : (F4 m (10 : Int32) (10 : Int32)) = 0 := by unfold F4; rw [if_neg (by decide)]
theorem own_o10_11 (m : Int32) : (F4 m (11 : Int32) (10 : Int32)) = 0 := by unfold F4; rw [if_neg (by decide)]
theorem own_o11_0 (m : Int32) : (F4 m (0 : Int32) (11 : Int32)) = BV m 0 := by unfold F4; rw [if_pos (by decide), own_bv]; rfl
theorem own_o11_1 (m : Int32) : (F4 m (1 : Int32) (11 : Int32)) = BV m 1 := by unfold F4; rw [if_pos (by decide), own_bv]; rfl
theorem own_o11_2 (m : Int32) : (F4 m (2 : Int32) (11 : Int32)) = BV m 2 := by unfold F4; rw [if_pos (by decide), own_bv]; rfl
theorem own_o11_3 (m : Int32) : (F4 m (3 : Int32) (11 : Int32)) = BV m 3 := by unfold F4; rw [if_pos (by decide), own_bv]; rfl
theorem own_o11_4 (m : Int32) : (F4 m (4 : Int32) (11 : Int32)) = BV m 4 := by unfold F4; rw [if_pos (by decide), own_bv]; rfl
theorem own_o11_5 (m : Int32) : (F4 m (5 : Int32) (11 : Int32)) = BV m 5 := by unfold F4; rw [if_pos (by decide), own_bv]; rfl
theorem own_o11_6 (m : Int32) : (F4 m (6 : Int32) (11 : Int32)) = BV m 6 := by unfold F4; rw [if_pos (by decide), own_bv]; rfl
theorem own_o11_7 (m : Int32) : (F4 m (7 : Int32) (11 : Int32)) = BV m 7 := by unfold F4; rw [if_pos (by decide), own_bv]; rfl
theorem own_o11_8 (m : Int32) : (F4 m (8 : Int32) (11 : Int32)) = BV m 8 := by unfold F4; rw [if_pos (by decide), own_bv]; rfl
theorem own_o11_9 (m : Int32) : (F4 m (9 : Int32) (11 : Int32)) = BV m 9 := by unfold F4; rw [if_pos (by decide), own_bv]; rfl
theorem own_o11_10 (m : Int32) : (F4 m (10 : Int32) (11 : Int32)) = BV m 10 := by unfold F4; rw [if_pos (by decide), own_bv]; rfl
theorem own_o11_11 (m : Int32) : (F4 m (11 : Int32) (11 : Int32)) = 0 := by unfold F4; rw [if_neg (by decide)]
theorem own_o12_0 (m : Int32) : (F4 m (0 : Int32) (12 : Int32)) = BV m 0 := by unfold F4; rw [if_pos (by decide), own_bv]; rfl
theorem own_o12_1 (m : Int32) : (F4 m (1 : Int32) (12 : Int32)) = BV m 1 := by unfold F4; rw [if_pos (by decide), own_bv]; rfl
theorem own_o12_2 (m : Int32) : (F4 m (2 : Int32) (12 : Int32)) = BV m 2 := by unfold F4; rw [if_pos (by decide), own_bv]; rfl
theorem own_o12_3 (m : Int32) : (F4 m (3 : Int32) (12 : Int32)) = BV m 3 := by unfold F4; rw [if_pos (by decide), own_bv]; rfl
theorem own_o12_4 (m : Int32) : (F4 m (4 : Int32) (12 : Int32)) = BV m 4 := by unfold F4; rw [if_pos (by decide), own_bv]; rfl
theorem own_o12_5 (m : Int32) : (F4 m (5 : Int32) (12 : Int32)) = BV m 5 := by unfold F4; rw [if_pos (by decide), own_bv]; rfl
theorem own_o12_6 (m : Int32) : (F4 m (6 : Int32) (12 : Int32)) = BV m 6 := by unfold F4; rw [if_pos (by decide), own_bv]; rfl
theorem own_o12_7 (m : Int32) : (F4 m (7 : Int32) (12 : Int32)) = BV m 7 := by unfold F4; rw [if_pos (by decide), own_bv]; rfl
theorem own_o12_8 (m : Int32) : (F4 m (8 : Int32) (12 : Int32)) = BV m 8 := by unfold F4; rw [if_pos (by decide), own_bv]; rfl
theorem own_o12_9 (m : Int32) : (F4 m (9 : Int32) (12 : Int32)) = BV m 9 := by unfold F4; rw [if_pos (by decide), own_bv]; rfl
theorem own_o12_10 (m : Int32) : (F4 m (10 : Int32) (12 : Int32)) = BV m 10 := by unfold F4; rw [if_pos (by decide), own_bv]; rfl
theorem own_o12_11 (m : Int32) : (F4 m (11 : Int32) (12 : Int32)) = BV m 11 := by unfold F4; rw [if_pos (by decide), own_bv]; rfl
theorem own_cnt (p3 x5 : Int32) (nn : Nat) (hn5 : x5.toInt = nn) (hn1 : 1 ≤ nn) (hn2 : nn ≤ 12) : (CN (0 : Int32) (VL p3 nn 12)) = ((((((((((((F4 p3 (0 : Int32) x5) + (F4 p3 (1 : Int32) x5)) + (F4 p3 (2 : Int32) x5)) + (F4 p3 (3 : Int32) x5)) + (F4 p3 (4 : Int32) x5)) + (F4 p3 (5 : Int32) x5)) + (F4 p3 (6 : Int32) x5)) + (F4 p3 (7 : Int32) x5)) + (F4 p3 (8 : Int32) x5)) + (F4 p3 (9 : Int32) x5)) + (F4 p3 (10 : Int32) x5)) + (F4 p3 (11 : Int32) x5)) := by
  obtain rfl | rfl | rfl | rfl | rfl | rfl | rfl | rfl | rfl | rfl | rfl | rfl : nn = 1 ∨ nn = 2 ∨ nn = 3 ∨ nn = 4 ∨ nn = 5 ∨ nn = 6 ∨ nn = 7 ∨ nn = 8 ∨ nn = 9 ∨ nn = 10 ∨ nn = 11 ∨ nn = 12 := by omega
  · obtain rfl : x5 = (1 : Int32) := Int32.toInt_inj.mp (by rw [hn5]; rfl)
    have e : VL p3 1 12 = [BV p3 0] := rfl
    rw [e]
    simp only [CN_cons, CN_nil, own_tv, Int32.zero_add, Int32.add_zero, own_o1_0, own_o1_1, own_o1_2, own_o1_3, own_o1_4, own_o1_5, own_o1_6, own_o1_7, own_o1_8, own_o1_9, own_o1_10, own_o1_11]
  · obtain rfl : x5 = (2 : Int32) := Int32.toInt_inj.mp (by rw [hn5]; rfl)
    have e : VL p3 2 12 = [BV p3 0, BV p3 1] := rfl
    rw [e]
    simp only [CN_cons, CN_nil, own_tv, Int32.zero_add, Int32.add_zero, own_o2_0, own_o2_1, own_o2_2, own_o2_3, own_o2_4, own_o2_5, own_o2_6, own_o2_7, own_o2_8, own_o2_9, own_o2_10, own_o2_11]
  · obtain rfl : x5 = (3 : Int32) := Int32.toInt_inj.mp (by rw [hn5]; rfl)
    have e : VL p3 3 12 = [BV p3 0, BV p3 1, BV p3 2] := rfl
    rw [e]
    simp only [CN_cons, CN_nil, own_tv, Int32.zero_add, Int32.add_zero, own_o3_0, own_o3_1, own_o3_2, own_o3_3, own_o3_4, own_o3_5, own_o3_6, own_o3_7, own_o3_8, own_o3_9, own_o3_10, own_o3_11]
  · obtain rfl : x5 = (4 : Int32) := Int32.toInt_inj.mp (by rw [hn5]; rfl)
    have e : VL p3 4 12 = [BV p3 0, BV p3 1, BV p3 2, BV p3 3] := rfl
    rw [e]
    simp only [CN_cons, CN_nil, own_tv, Int32.zero_add, Int32.add_zero, own_o4_0, own_o4_1, own_o4_2, own_o4_3, own_o4_4, own_o4_5, own_o4_6, own_o4_7, own_o4_8, own_o4_9, own_o4_10, own_o4_11]
  · obtain rfl : x5 = (5 : Int32) := Int32.toInt_inj.mp (by rw [hn5]; rfl)
    have e : VL p3 5 12 = [BV p3 0, BV p3 1, BV p3 2, BV p3 3, BV p3 4] := rfl
    rw [e]
    simp only [CN_cons, CN_nil, own_tv, Int32.zero_add, Int32.add_zero, own_o5_0, own_o5_1, own_o5_2, own_o5_3, own_o5_4, own_o5_5, own_o5_6, own_o5_7, own_o5_8, own_o5_9, own_o5_10, own_o5_11]
  · obtain rfl : x5 = (6 : Int32) := Int32.toInt_inj.mp (by rw [hn5]; rfl)
    have e : VL p3 6 12 = [BV p3 0, BV p3 1, BV p3 2, BV p3 3, BV p3 4, BV p3 5] := rfl
    rw [e]
    simp only [CN_cons, CN_nil, own_tv, Int32.zero_add, Int32.add_zero, own_o6_0, own_o6_1, own_o6_2, own_o6_3, own_o6_4, own_o6_5, own_o6_6, own_o6_7, own_o6_8, own_o6_9, own_o6_10, own_o6_11]
  · obtain rfl : x5 = (7 : Int32) := Int32.toInt_inj.mp (by rw [hn5]; rfl)
    have e : VL p3 7 12 = [BV p3 0, BV p3 1, BV p3 2, BV p3 3, BV p3 4, BV p3 5, BV p3 6] := rfl
    rw [e]
    simp only [CN_cons, CN_nil, own_tv, Int32.zero_add, Int32.add_zero, own_o7_0, own_o7_1, own_o7_2, own_o7_3, own_o7_4, own_o7_5, own_o7_6, own_o7_7, own_o7_8, own_o7_9, own_o7_10, own_o7_11]
  · obtain rfl : x5 = (8 : Int32) := Int32.toInt_inj.mp (by rw [hn5]; rfl)
    have e : VL p3 8 12 = [BV p3 0, BV p3 1, BV p3 2, BV p3 3, BV p3 4, BV p3 5, BV p3 6, BV p3 7] := rfl
    rw [e]
    simp only [CN_cons, CN_nil, own_tv, Int32.zero_add, Int32.add_zero, own_o8_0, own_o8_1, own_o8_2, own_o8_3, own_o8_4, own_o8_5, own_o8_6, own_o8_7, own_o8_8, own_o8_9, own_o8_10, own_o8_11]
  · obtain rfl : x5 = (9 : Int32) := Int32.toInt_inj.mp (by rw [hn5]; rfl)
    have e : VL p3 9 12 = [BV p3 0, BV p3 1, BV p3 2, BV p3 3, BV p3 4, BV p3 5, BV p3 6, BV p3 7, BV p3 8] := rfl
    rw [e]
    simp only [CN_cons, CN_nil, own_tv, Int32.zero_add, Int32.add_zero, own_o9_0, own_o9_1, own_o9_2, own_o9_3, own_o9_4, own_o9_5, own_o9_6, own_o9_7, own_o9_8, own_o9_9, own_o9_10, own_o9_11]
  · obtain rfl : x5 = (10 : Int32) := Int32.toInt_inj.mp (by rw [hn5]; rfl)
    have e : VL p3 10 12 = [BV p3 0, BV p3 1, BV p3 2, BV p3 3, BV p3 4, BV p3 5, BV p3 6, BV p3 7, BV p3 8, BV p3 9] := rfl
    rw [e]
    simp only [CN_cons, CN_nil, own_tv, Int32.zero_add, Int32.add_zero, own_o10_0, own_o10_1, own_o10_2, own_o10_3, own_o10_4, own_o10_5, own_o10_6, own_o10_7, own_o10_8, own_o10_9, own_o10_10, own_o10_11]
  · obtain rfl : x5 = (11 : Int32) := Int32.toInt_inj.mp (by rw [hn5]; rfl)
    have e : VL p3 11 12 = [BV p3 0, BV p3 1, BV p3 2, BV p3 3, BV p3 4, BV p3 5, BV p3 6, BV p3 7, BV p3 8, BV p3 9, BV p3 10] := rfl
    rw [e]
    simp only [CN_cons, CN_nil, own_tv, Int32.zero_add, Int32.add_zero, own_o11_0, own_o11_1, own_o11_2, own_o11_3, own_o11_4, own_o11_5, own_o11_6, own_o11_7, own_o11_8, own_o11_9, own_o11_10, own_o11_11]
  · obtain rfl : x5 = (12 : Int32) := Int32.toInt_inj.mp (by rw [hn5]; rfl)
    have e : VL p3 12 12 = [BV p3 0, BV p3 1, BV p3 2, BV p3 3, BV p3 4, BV p3 5, BV p3 6, BV p3 7, BV p3 8, BV p3 9, BV p3 10, BV p3 11] := rfl
    rw [e]
    simp only [CN_cons, CN_nil, own_tv, Int32.zero_add, Int32.add_zero, own_o12_0, own_o12_1, own_o12_2, own_o12_3, own_o12_4, own_o12_5, own_o12_6, own_o12_7, own_o12_8, own_o12_9, own_o12_10, own_o12_11]
set_option maxRecDepth 65536 in
set_option maxHeartbeats 40000000 in
theorem blk256 {p : Program} {l : Launch} {e : Env} {s : State} {m : MethodId} {args : Array Value} {below : List Frame} {meth : Method} {c : Code} {T : State} {locs : List Loc} {Z : State} {a0 : Array Value} {h0 : Heap} {n0 : Nat} (p1 p2 p3 x3 x4 x5 : Int32) (b6 : Addr) (o7 d7 : Addr) (nn : Nat)
    (X0 : Stand p l e room_1 s m args below meth c T locs 3 27) (hx : p.tables.exec = Jvm.exec) (hZ : Z.Warmed39 s.vm) (hw : ∀ d ∈ tables_1, d.before a0 Z = true) (hby : c.code = code) (hml : c.maxLocals = 9) (hown : s.vm.findClass "com/example/wardsum/wardsum/model/GridMapFreeCellCountPinLaw" = some m.cls) (hlk : meth.locks = false) (hret : meth.sig.returnType = ret) (hnm : meth.name = "law") (N0 : Fr n0 locs) (Z0 : n0 ≤ h0.size) (e0 : T.heap = h0) (E7 : Exa Z h0 o7 "com/example/wardsum/wardsum/model/GridMap") (F7 : Fld Z h0 o7 "com/example/wardsum/wardsum/model/GridMap" "free" "[Z" (.ref d7)) (A7 : Ax Z h0 d7 .boolean ((VL p3 nn 12).map Value.int)) (hn5 : x5.toInt = nn) (hn1 : 1 ≤ nn) (hn2 : nn ≤ 12) :
    Done p e below s (fun v h L => v = some (.int 1) ∧ Fr n0 L) room_1.cells room_1.slots (T.setTop (mkF m 256 #[.val (.int p1), .val (.int p2), .val (.int p3), .val (.int x3), .val (.int x4), .val (.int x5), .val (.ref b6), .val (.ref o7), .unset] [])) := by
  show Done p e below s _ _ _ (T.setTop (mkF m 256 #[.val (.int p1), .val (.int p2), .val (.int p3), .val (.int x3), .val (.int x4), .val (.int x5), .val (.ref b6), .val (.ref o7), .unset] []))
  refine Done.step (fun t k => XS.iloadN X0.here hx rfl (hb hby at_256) rfl k) ?_
  show Done p e below s _ _ _ (T.setTop (mkF m 257 #[.val (.int p1), .val (.int p2), .val (.int p3), .val (.int x3), .val (.int x4), .val (.int x5), .val (.ref b6), .val (.ref o7), .unset] [(.int p3)]))
  refine Done.step (fun t k => XS.iconst X0.here hx rfl (hb hby at_257) k) ?_
  show Done p e below s _ _ _ (T.setTop (mkF m 258 #[.val (.int p1), .val (.int p2), .val (.int p3), .val (.int x3), .val (.int x4), .val (.int x5), .val (.ref b6), .val (.ref o7), .unset] [(.int (0 : Int32)), (.int p3)]))
  refine Done.step (fun t k => XS.iload X0.here hx rfl (hb hby at_258) rfl k) ?_
  show Done p e below s _ _ _ (T.setTop (mkF m 260 #[.val (.int p1), .val (.int p2), .val (.int p3), .val (.int x3), .val (.int x4), .val (.int x5), .val (.ref b6), .val (.ref o7), .unset] [(.int x5), (.int (0 : Int32)), (.int p3)]))
  obtain ⟨v1, _, ⟨T1, L1, k1, n1⟩, -, X1, ⟨Lc1, hQ1, l1, y1, z1⟩, st1⟩ := Jvm.LawKit.callS X0 hx (y := (⟨"com/example/wardsum/wardsum/model/GridMapFreeCellCountPinLaw", "one", "(III)I"⟩ : MethodName)) hown (mvT hZ (hw _ (List.mem_of_getElem? (i := 30) rfl))) (mvT hZ (hw _ (List.mem_of_getElem? (i := 31) rfl))) (mvT hZ (hw _ (List.mem_of_getElem? (i := 4) rfl))) (mvT hZ (hw _ (List.mem_of_getElem? (i := 32) rfl))) (by decide) (backOf (W := 0) (rm4 l Z a0 hw [] p3 (0 : Int32) x5 h0 n0 Z0 ) hZ (hw _ (List.mem_of_getElem? (i := 32) rfl)) (hw _ (List.mem_of_getElem? (i := 4) rfl)) (by decide) (by decide)) (g := (mkF m 260 #[.val (.int p1), .val (.int p2), .val (.int p3), .val (.int x3), .val (.int x4), .val (.int x5), .val (.ref b6), .val (.ref o7), .unset] [(.int x5), (.int (0 : Int32)), (.int p3)])) rfl (by rw [hml]; rfl) (argsL := [(.int p3), (.int (0 : Int32)), (.int x5)]) (rest := []) (lenOf pd_2 rfl) rfl (by show 2 * 0 + _ ≤ _; exact Nat.le_of_eq rfl) (hb hby at_260) (fun _ _ => ⟨rfl, e0, (by decide : 3 + 0 ≤ _), (by decide : 27 + 0 ≤ _)⟩)
  dsimp only [Pt.U, Pt.locs, Pt.cells, Pt.slots] at X1 l1 y1 z1 st1 hQ1
  subst l1 y1 z1
  refine Done.step st1 ?_
  obtain ⟨rfl, N1q, e1⟩ := hQ1
  have N1 := Fr.app N0 N1q
  show Done p e below s _ _ _ (T1.setTop (mkF m 263 #[.val (.int p1), .val (.int p2), .val (.int p3), .val (.int x3), .val (.int x4), .val (.int x5), .val (.ref b6), .val (.ref o7), .unset] [(.int (F4 p3 (0 : Int32) x5))]))
  refine Done.step (fun t k => XS.iloadN X1.here hx rfl (hb hby at_263) rfl k) ?_
  show Done p e below s _ _ _ (T1.setTop (mkF m 264 #[.val (.int p1), .val (.int p2), .val (.int p3), .val (.int x3), .val (.int x4), .val (.int x5), .val (.ref b6), .val (.ref o7), .unset] [(.int p3), (.int (F4 p3 (0 : Int32) x5))]))
  refine Done.step (fun t k => XS.iconst X1.here hx rfl (hb hby at_264) k) ?_
  show Done p e below s _ _ _ (T1.setTop (mkF m 265 #[.val (.int p1), .val (.int p2), .val (.int p3), .val (.int x3), .val (.int x4), .val (.int x5), .val (.ref b6), .val (.ref o7), .unset] [(.int (1 : Int32)), (.int p3), (.int (F4 p3 (0 : Int32) x5))]))
  refine Done.step (fun t k => XS.iload X1.here hx rfl (hb hby at_265) rfl k) ?_
  show Done p e below s _ _ _ (T1.setTop (mkF m 267 #[.val (.int p1), .val (.int p2), .val (.int p3), .val (.int x3), .val (.int x4), .val (.int x5), .val (.ref b6), .val (.ref o7), .unset] [(.int x5), (.int (1 : Int32)), (.int p3), (.int (F4 p3 (0 : Int32) x5))]))
  obtain ⟨v2, _, ⟨T2, L2, k2, n2⟩, -, X2, ⟨Lc2, hQ2, l2, y2, z2⟩, st2⟩ := Jvm.LawKit.callS X1 hx (y := (⟨"com/example/wardsum/wardsum/model/GridMapFreeCellCountPinLaw", "one", "(III)I"⟩ : MethodName)) hown (mvT hZ (hw _ (List.mem_of_getElem? (i := 30) rfl))) (mvT hZ (hw _ (List.mem_of_getElem? (i := 31) rfl))) (mvT hZ (hw _ (List.mem_of_getElem? (i := 4) rfl))) (mvT hZ (hw _ (List.mem_of_getElem? (i := 32) rfl))) (by decide) (backOf (W := 1) (rm4 l Z a0 hw [] p3 (1 : Int32) x5 h0 n0 Z0 ) hZ (hw _ (List.mem_of_getElem? (i := 32) rfl)) (hw _ (List.mem_of_getElem? (i := 4) rfl)) (by decide) (by decide)) (g := (mkF m 267 #[.val (.int p1), .val (.int p2), .val (.int p3), .val (.int x3), .val (.int x4), .val (.int x5), .val (.ref b6), .val (.ref o7), .unset] [(.int x5), (.int (1 : Int32)), (.int p3), (.int (F4 p3 (0 : Int32) x5))])) rfl (by rw [hml]; rfl) (argsL := [(.int p3), (.int (1 : Int32)), (.int x5)]) (rest := [(.int (F4 p3 (0 : Int32) x5))]) (lenOf pd_2 rfl) rfl (by show 2 * 0 + _ ≤ _; exact Nat.le_of_eq rfl) (hb hby at_267) (fun _ _ => ⟨rfl, e1, (by decide : 3 + 0 ≤ _), (by decide : 27 + 0 ≤ _)⟩)
  dsimp only [Pt.U, Pt.locs, Pt.cells, Pt.slots] at X2 l2 y2 z2 st2 hQ2
  subst l2 y2 z2
  refine Done.step st2 ?_
  obtain ⟨rfl, N2q, e2⟩ := hQ2
  have N2 := Fr.app N1 N2q
  show Done p e below s _ _ _ (T2.setTop (mkF m 270 #[.val (.int p1), .val (.int p2), .val (.int p3), .val (.int x3), .val (.int x4), .val (.int x5), .val (.ref b6), .val (.ref o7), .unset] [(.int (F4 p3 (1 : Int32) x5)), (.int (F4 p3 (0 : Int32) x5))]))
  refine Done.step (fun t k => XS.iadd X2.here hx rfl (hb hby at_270) rfl k) ?_
  show Done p e below s _ _ _ (T2.setTop (mkF m 271 #[.val (.int p1), .val (.int p2), .val (.int p3), .val (.int x3), .val (.int x4), .val (.int x5), .val (.ref b6), .val (.ref o7), .unset] [(.int ((F4 p3 (0 : Int32) x5) + (F4 p3 (1 : Int32) x5)))]))
  refine Done.step (fun t k => XS.iloadN X2.here hx rfl (hb hby at_271) rfl k) ?_
  show Done p e below s _ _ _ (T2.setTop (mkF m 272 #[.val (.int p1), .val (.int p2), .val (.int p3), .val (.int x3), .val (.int x4), .val (.int x5), .val (.ref b6), .val (.ref o7), .unset] [(.int p3), (.int ((F4 p3 (0 : Int32) x5) + (F4 p3 (1 : Int32) x5)))]))
  refine Done.step (fun t k => XS.iconst X2.here hx rfl (hb hby at_272) k) ?_
  show Done p e below s _ _ _ (T2.setTop (mkF m 273 #[.val (.int p1), .val (.int p2), .val (.int p3), .val (.int x3), .val (.int x4), .val (.int x5), .val (.ref b6), .val (.ref o7), .unset] [(.int (2 : Int32)), (.int p3), (.int ((F4 p3 (0 : Int32) x5) + (F4 p3 (1 : Int32) x5)))]))
  refine Done.step (fun t k => XS.iload X2.here hx rfl (hb hby at_273) rfl k) ?_
  show Done p e below s _ _ _ (T2.setTop (mkF m 275 #[.val (.int p1), .val (.int p2), .val (.int p3), .val (.int x3), .val (.int x4), .val (.int x5), .val (.ref b6), .val (.ref o7), .unset] [(.int x5), (.int (2 : Int32)), (.int p3), (.int ((F4 p3 (0 : Int32) x5) + (F4 p3 (1 : Int32) x5)))]))
  obtain ⟨v3, _, ⟨T3, L3, k3, n3⟩, -, X3, ⟨Lc3, hQ3, l3, y3, z3⟩, st3⟩ := Jvm.LawKit.callS X2 hx (y := (⟨"com/example/wardsum/wardsum/model/GridMapFreeCellCountPinLaw", "one", "(III)I"⟩ : MethodName)) hown (mvT hZ (hw _ (List.mem_of_getElem? (i := 30) rfl))) (mvT hZ (hw _ (List.mem_of_getElem? (i := 31) rfl))) (mvT hZ (hw _ (List.mem_of_getElem? (i := 4) rfl))) (mvT hZ (hw _ (List.mem_of_getElem? (i := 32) rfl))) (by decide) (backOf (W := 1) (rm4 l Z a0 hw [] p3 (2 : Int32) x5 h0 n0 Z0 ) hZ (hw _ (List.mem_of_getElem? (i := 32) rfl)) (hw _ (List.mem_of_getElem? (i := 4) rfl)) (by decide) (by decide)) (g := (mkF m 275 #[.val (.int p1), .val (.int p2), .val (.int p3), .val (.int x3), .val (.int x4), .val (.int x5), .val (.ref b6), .val (.ref o7), .unset] [(.int x5), (.int (2 : Int32)), (.int p3), (.int ((F4 p3 (0 : Int32) x5) + (F4 p3 (1 : Int32) x5)))])) rfl (by rw [hml]; rfl) (argsL := [(.int p3), (.int (2 : Int32)), (.int x5)]) (rest := [(.int ((F4 p3 (0 : Int32) x5) + (F4 p3 (1 : Int32) x5)))]) (lenOf pd_2 rfl) rfl (by show 2 * 0 + _ ≤ _; exact Nat.le_of_eq rfl) (hb hby at_275) (fun _ _ => ⟨rfl, e2, (by decide : 3 + 0 ≤ _), (by decide : 27 + 0 ≤ _)⟩)
  dsimp only [Pt.U, Pt.locs, Pt.cells, Pt.slots] at X3 l3 y3 z3 st3 hQ3
  subst l3 y3 z3
  refine Done.step st3 ?_
  obtain ⟨rfl, N3q, e3⟩ := hQ3
  have N3 := Fr.app N2 N3q
  show Done p e below s _ _ _ (T3.setTop (mkF m 278 #[.val (.int p1), .val (.int p2), .val (.int p3), .val (.int x3), .val (.int x4), .val (.int x5), .val (.ref b6), .val (.ref o7), .unset] [(.int (F4 p3 (2 : Int32) x5)), (.int ((F4 p3 (0 : Int32) x5) + (F4 p3 (1 : Int32) x5)))]))
  refine Done.step (fun t k => XS.iadd X3.here hx rfl (hb hby at_278) rfl k) ?_
  show Done p e below s _ _ _ (T3.setTop (mkF m 279 #[.val (.int p1), .val (.int p2), .val (.int p3), .val (.int x3), .val (.int x4), .val (.int x5), .val (.ref b6), .val (.ref o7), .unset] [(.int (((F4 p3 (0 : Int32) x5) + (F4 p3 (1 : Int32) x5)) + (F4 p3 (2 : Int32) x5)))]))
  refine Done.step (fun t k => XS.iloadN X3.here hx rfl (hb hby at_279) rfl k) ?_
  show Done p e below s _ _ _ (T3.setTop (mkF m 280 #[.val (.int p1), .val (.int p2), .val (.int p3), .val (.int x3), .val (.int x4), .val (.int x5), .val (.ref b6), .val (.ref o7), .unset] [(.int p3), (.int (((F4 p3 (0 : Int32) x5) + (F4 p3 (1 : Int32) x5)) + (F4 p3 (2 : Int32) x5)))]))
  refine Done.step (fun t k => XS.iconst X3.here hx rfl (hb hby at_280) k) ?_
  show Done p e below s _ _ _ (T3.setTop (mkF m 281 #[.val (.int p1), .val (.int p2), .val (.int p3), .val (.int x3), .val (.int x4), .val (.int x5), .val (.ref b6), .val (.ref o7), .unset] [(.int (3 : Int32)), (.int p3), (.int (((F4 p3 (0 : Int32) x5) + (F4 p3 (1 : Int32) x5)) + (F4 p3 (2 : Int32) x5)))]))
  refine Done.step (fun t k => XS.iload X3.here hx rfl (hb hby at_281) rfl k) ?_
  show Done p e below s _ _ _ (T3.setTop (mkF m 283 #[.val (.int p1), .val (.int p2), .val (.int p3), .val (.int x3), .val (.int x4), .val (.int x5), .val (.ref b6), .val (.ref o7), .unset] [(.int x5), (.int (3 : Int32)), (.int p3), (.int (((F4 p3 (0 : Int32) x5) + (F4 p3 (1 : Int32) x5)) + (F4 p3 (2 : Int32) x5)))]))
  obtain ⟨v4, _, ⟨T4, L4, k4, n4⟩, -, X4, ⟨Lc4, hQ4, l4, y4, z4⟩, st4⟩ := Jvm.LawKit.callS X3 hx (y := (⟨"com/example/wardsum/wardsum/model/GridMapFreeCellCountPinLaw", "one", "(III)I"⟩ : MethodName)) hown (mvT hZ (hw _ (List.mem_of_getElem? (i := 30) rfl))) (mvT hZ (hw _ (List.mem_of_getElem? (i := 31) rfl))) (mvT hZ (hw _ (List.mem_of_getElem? (i := 4) rfl))) (mvT hZ (hw _ (List.mem_of_getElem? (i := 32) rfl))) (by decide) (backOf (W := 1) (rm4 l Z a0 hw [] p3 (3 : Int32) x5 h0 n0 Z0 ) hZ (hw _ (List.mem_of_getElem? (i := 32) rfl)) (hw _ (List.mem_of_getElem? (i := 4) rfl)) (by decide) (by decide)) (g := (mkF m 283 #[.val (.int p1), .val (.int p2), .val (.int p3), .val (.int x3), .val (.int x4), .val (.int x5), .val (.ref b6), .val (.ref o7), .unset] [(.int x5), (.int (3 : Int32)), (.int p3), (.int (((F4 p3 (0 : Int32) x5) + (F4 p3 (1 : Int32) x5)) + (F4 p3 (2 : Int32) x5)))])) rfl (by rw [hml]; rfl) (argsL := [(.int p3), (.int (3 : Int32)), (.int x5)]) (rest := [(.int (((F4 p3 (0 : Int32) x5) + (F4 p3 (1 : Int32) x5)) + (F4 p3 (2 : Int32) x5)))]) (lenOf pd_2 rfl) rfl (by show 2 * 0 + _ ≤ _; exact Nat.le_of_eq rfl) (hb hby at_283) (fun _ _ => ⟨rfl, e3, (by decide : 3 + 0 ≤ _), (by decide : 27 + 0 ≤ _)⟩)
  dsimp only [Pt.U, Pt.locs, Pt.cells, Pt.slots] at X4 l4 y4 z4 st4 hQ4
  subst l4 y4 z4
  refine Done.step st4 ?_
  obtain ⟨rfl, N4q, e4⟩ := hQ4
  have N4 := Fr.app N3 N4q
  show Done p e below s _ _ _ (T4.setTop (mkF m 286 #[.val (.int p1), .val (.int p2), .val (.int p3), .val (.int x3), .val (.int x4), .val (.int x5), .val (.ref b6), .val (.ref o7), .unset] [(.int (F4 p3 (3 : Int32) x5)), (.int (((F4 p3 (0 : Int32) x5) + (F4 p3 (1 : Int32) x5)) + (F4 p3 (2 : Int32) x5)))]))
  refine Done.step (fun t k => XS.iadd X4.here hx rfl (hb hby at_286) rfl k) ?_
  show Done p e below s _ _ _ (T4.setTop (mkF m 287 #[.val (.int p1), .val (.int p2), .val (.int p3), .val (.int x3), .val (.int x4), .val (.int x5), .val (.ref b6), .val (.ref o7), .unset] [(.int ((((F4 p3 (0 : Int32) x5) + (F4 p3 (1 : Int32) x5)) + (F4 p3 (2 : Int32) x5)) + (F4 p3 (3 : Int32) x5)))]))
  refine Done.step (fun t k => XS.iloadN X4.here hx rfl (hb hby at_287) rfl k) ?_
  show Done p e below s _ _ _ (T4.setTop (mkF m 288 #[.val (.int p1), .val (.int p2), .val (.int p3), .val (.int x3), .val (.int x4), .val (.int x5), .val (.ref b6), .val (.ref o7), .unset] [(.int p3), (.int ((((F4 p3 (0 : Int32) x5) + (F4 p3 (1 : Int32) x5)) + (F4 p3 (2 : Int32) x5)) + (F4 p3 (3 : Int32) x5)))]))
  refine Done.step (fun t k => XS.iconst X4.here hx rfl (hb hby at_288) k) ?_
  show Done p e below s _ _ _ (T4.setTop (mkF m 289 #[.val (.int p1), .val (.int p2), .val (.int p3), .val (.int x3), .val (.int x4), .val (.int x5), .val (.ref b6), .val (.ref o7), .unset] [(.int (4 : Int32)), (.int p3), (.int ((((F4 p3 (0 : Int32) x5) + (F4 p3 (1 : Int32) x5)) + (F4 p3 (2 : Int32) x5)) + (F4 p3 (3 : Int32) x5)))]))
  refine Done.step (fun t k => XS.iload X4.here hx rfl (hb hby at_289) rfl k) ?_
  show Done p e below s _ _ _ (T4.setTop (mkF m 291 #[.val (.int p1), .val (.int p2), .val (.int p3), .val (.int x3), .val (.int x4), .val (.int x5), .val (.ref b6), .val (.ref o7), .unset] [(.int x5), (.int (4 : Int32)), (.int p3), (.int ((((F4 p3 (0 : Int32) x5) + (F4 p3 (1 : Int32) x5)) + (F4 p3 (2 : Int32) x5)) + (F4 p3 (3 : Int32) x5)))]))
  obtain ⟨v5, _, ⟨T5, L5, k5, n5⟩, -, X5, ⟨Lc5, hQ5, l5, y5, z5⟩, st5⟩ := Jvm.LawKit.callS X4 hx (y := (⟨"com/example/wardsum/wardsum/model/GridMapFreeCellCountPinLaw", "one", "(III)I"⟩ : MethodName)) hown (mvT hZ (hw _ (List.mem_of_getElem? (i := 30) rfl))) (mvT hZ (hw _ (List.mem_of_getElem? (i := 31) rfl))) (mvT hZ (hw _ (List.mem_of_getElem? (i := 4) rfl))) (mvT hZ (hw _ (List.mem_of_getElem? (i := 32) rfl))) (by decide) (backOf (W := 1) (rm4 l Z a0 hw [] p3 (4 : Int32) x5 h0 n0 Z0 ) hZ (hw _ (List.mem_of_getElem? (i := 32) rfl)) (hw _ (List.mem_of_getElem? (i := 4) rfl)) (by decide) (by decide)) (g := (mkF m 291 #[.val (.int p1), .val (.int p2), .val (.int p3), .val (.int x3), .val (.int x4), .val (.int x5), .val (.ref b6), .val (.ref o7), .unset] [(.int x5), (.int (4 : Int32)), (.int p3), (.int ((((F4 p3 (0 : Int32) x5) + (F4 p3 (1 : Int32) x5)) + (F4 p3 (2 : Int32) x5)) + (F4 p3 (3 : Int32) x5)))])) rfl (by rw [hml]; rfl) (argsL := [(.int p3), (.int (4 : Int32)), (.int x5)]) (rest := [(.int ((((F4 p3 (0 : Int32) x5) + (F4 p3 (1 : Int32) x5)) + (F4 p3 (2 : Int32) x5)) + (F4 p3 (3 : Int32) x5)))]) (lenOf pd_2 rfl) rfl (by show 2 * 0 + _ ≤ _; exact Nat.le_of_eq rfl) (hb hby at_291) (fun _ _ => ⟨rfl, e4, (by decide : 3 + 0 ≤ _), (by decide : 27 + 0 ≤ _)⟩)
  dsimp only [Pt.U, Pt.locs, Pt.cells, Pt.slots] at X5 l5 y5 z5 st5 hQ5
  subst l5 y5 z5
  refine Done.step st5 ?_
  obtain ⟨rfl, N5q, e5⟩ := hQ5
  have N5 := Fr.app N4 N5q
  show Done p e below s _ _ _ (T5.setTop (mkF m 294 #[.val (.int p1), .val (.int p2), .val (.int p3), .val (.int x3), .val (.int x4), .val (.int x5), .val (.ref b6), .val (.ref o7), .unset] [(.int (F4 p3 (4 : Int32) x5)), (.int ((((F4 p3 (0 : Int32) x5) + (F4 p3 (1 : Int32) x5)) + (F4 p3 (2 : Int32) x5)) + (F4 p3 (3 : Int32) x5)))]))
  refine Done.step (fun t k => XS.iadd X5.here hx rfl (hb hby at_294) rfl k) ?_
  show Done p e below s _ _ _ (T5.setTop (mkF m 295 #[.val (.int p1), .val (.int p2), .val (.int p3), .val (.int x3), .val (.int x4), .val (.int x5), .val (.ref b6), .val (.ref o7), .unset] [(.int (((((F4 p3 (0 : Int32) x5) + (F4 p3 (1 : Int32) x5)) + (F4 p3 (2 : Int32) x5)) + (F4 p3 (3 : Int32) x5)) + (F4 p3 (4 : Int32) x5)))]))
  refine Done.step (fun t k => XS.iloadN X5.here hx rfl (hb hby at_295) rfl k) ?_
  show Done p e below s _ _ _ (T5.setTop (mkF m 296 #[.val (.int p1), .val (.int p2), .val (.int p3), .val (.int x3), .val (.int x4), .val (.int x5), .val (.ref b6), .val (.ref o7), .unset] [(.int p3), (.int (((((F4 p3 (0 : Int32) x5) + (F4 p3 (1 : Int32) x5)) + (F4 p3 (2 : Int32) x5)) + (F4 p3 (3 : Int32) x5)) + (F4 p3 (4 : Int32) x5)))]))
  refine Done.step (fun t k => XS.iconst X5.here hx rfl (hb hby at_296) k) ?_
  show Done p e below s _ _ _ (T5.setTop (mkF m 297 #[.val (.int p1), .val (.int p2), .val (.int p3), .val (.int x3), .val (.int x4), .val (.int x5), .val (.ref b6), .val (.ref o7), .unset] [(.int (5 : Int32)), (.int p3), (.int (((((F4 p3 (0 : Int32) x5) + (F4 p3 (1 : Int32) x5)) + (F4 p3 (2 : Int32) x5)) + (F4 p3 (3 : Int32) x5)) + (F4 p3 (4 : Int32) x5)))]))
  refine Done.step (fun t k => XS.iload X5.here hx rfl (hb hby at_297) rfl k) ?_
  show Done p e below s _ _ _ (T5.setTop (mkF m 299 #[.val (.int p1), .val (.int p2), .val (.int p3), .val (.int x3), .val (.int x4), .val (.int x5), .val (.ref b6), .val (.ref o7), .unset] [(.int x5), (.int (5 : Int32)), (.int p3), (.int (((((F4 p3 (0 : Int32) x5) + (F4 p3 (1 : Int32) x5)) + (F4 p3 (2 : Int32) x5)) + (F4 p3 (3 : Int32) x5)) + (F4 p3 (4 : Int32) x5)))]))
  obtain ⟨v6, _, ⟨T6, L6, k6, n6⟩, -, X6, ⟨Lc6, hQ6, l6, y6, z6⟩, st6⟩ := Jvm.LawKit.callS X5 hx (y := (⟨"com/example/wardsum/wardsum/model/GridMapFreeCellCountPinLaw", "one", "(III)I"⟩ : MethodName)) hown (mvT hZ (hw _ (List.mem_of_getElem? (i := 30) rfl))) (mvT hZ (hw _ (List.mem_of_getElem? (i := 31) rfl))) (mvT hZ (hw _ (List.mem_of_getElem? (i := 4) rfl))) (mvT hZ (hw _ (List.mem_of_getElem? (i := 32) rfl))) (by decide) (backOf (W := 1) (rm4 l Z a0 hw [] p3 (5 : Int32) x5 h0 n0 Z0 ) hZ (hw _ (List.mem_of_getElem? (i := 32) rfl)) (hw _ (List.mem_of_getElem? (i := 4) rfl)) (by decide) (by decide)) (g := (mkF m 299 #[.val (.int p1), .val (.int p2), .val (.int p3), .val (.int x3), .val (.int x4), .val (.int x5), .val (.ref b6), .val (.ref o7), .unset] [(.int x5), (.int (5 : Int32)), (.int p3), (.int (((((F4 p3 (0 : Int32) x5) + (F4 p3 (1 : Int32) x5)) + (F4 p3 (2 : Int32) x5)) + (F4 p3 (3 : Int32) x5)) + (F4 p3 (4 : Int32) x5)))])) rfl (by rw [hml]; rfl) (argsL := [(.int p3), (.int (5 : Int32)), (.int x5)]) (rest := [(.int (((((F4 p3 (0 : Int32) x5) + (F4 p3 (1 : Int32) x5)) + (F4 p3 (2 : Int32) x5)) + (F4 p3 (3 : Int32) x5)) + (F4 p3 (4 : Int32) x5)))]) (lenOf pd_2 rfl) rfl (by show 2 * 0 + _ ≤ _; exact Nat.le_of_eq rfl) (hb hby at_299) (fun _ _ => ⟨rfl, e5, (by decide : 3 + 0 ≤ _), (by decide : 27 + 0 ≤ _)⟩)
  dsimp only [Pt.U, Pt.locs, Pt.cells, Pt.slots] at X6 l6 y6 z6 st6 hQ6
  subst l6 y6 z6
  refine Done.step st6 ?_
  obtain ⟨rfl, N6q, e6⟩ := hQ6
  have N6 := Fr.app N5 N6q
  show Done p e below s _ _ _ (T6.setTop (mkF m 302 #[.val (.int p1), .val (.int p2), .val (.int p3), .val (.int x3), .val (.int x4), .val (.int x5), .val (.ref b6), .val (.ref o7), .unset] [(.int (F4 p3 (5 : Int32) x5)), (.int (((((F4 p3 (0 : Int32) x5) + (F4 p3 (1 : Int32) x5)) + (F4 p3 (2 : Int32) x5)) + (F4 p3 (3 : Int32) x5)) + (F4 p3 (4 : Int32) x5)))]))
  refine Done.step (fun t k => XS.iadd X6.here hx rfl (hb hby at_302) rfl k) ?_
  show Done p e below s _ _ _ (T6.setTop (mkF m 303 #[.val (.int p1), .val (.int p2), .val (.int p3), .val (.int x3), .val (.int x4), .val (.int x5), .val (.ref b6), .val (.ref o7), .unset] [(.int ((((((F4 p3 (0 : Int32) x5) + (F4 p3 (1 : Int32) x5)) + (F4 p3 (2 : Int32) x5)) + (F4 p3 (3 : Int32) x5)) + (F4 p3 (4 : Int32) x5)) + (F4 p3 (5 : Int32) x5)))]))
  refine Done.step (fun t k => XS.iloadN X6.here hx rfl (hb hby at_303) rfl k) ?_
  show Done p e below s _ _ _ (T6.setTop (mkF m 304 #[.val (.int p1), .val (.int p2), .val (.int p3), .val (.int x3), .val (.int x4), .val (.int x5), .val (.ref b6), .val (.ref o7), .unset] [(.int p3), (.int ((((((F4 p3 (0 : Int32) x5) + (F4 p3 (1 : Int32) x5)) + (F4 p3 (2 : Int32) x5)) + (F4 p3 (3 : Int32) x5)) + (F4 p3 (4 : Int32) x5)) + (F4 p3 (5 : Int32) x5)))]))
  refine Done.step (fun t k => XS.bipush X6.here hx rfl (hb hby at_304) k) ?_
  show Done p e below s _ _ _ (T6.setTop (mkF m 306 #[.val (.int p1), .val (.int p2), .val (.int p3), .val (.int x3), .val (.int x4), .val (.int x5), .val (.ref b6), .val (.ref o7), .unset] [(.int (6 : Int32)), (.int p3), (.int ((((((F4 p3 (0 : Int32) x5) + (F4 p3 (1 : Int32) x5)) + (F4 p3 (2 : Int32) x5)) + (F4 p3 (3 : Int32) x5)) + (F4 p3 (4 : Int32) x5)) + (F4 p3 (5 : Int32) x5)))]))
  refine Done.step (fun t k => XS.iload X6.here hx rfl (hb hby at_306) rfl k) ?_
  show Done p e below s _ _ _ (T6.setTop (mkF m 308 #[.val (.int p1), .val (.int p2), .val (.int p3), .val (.int x3), .val (.int x4), .val (.int x5), .val (.ref b6), .val (.ref o7), .unset] [(.int x5), (.int (6 : Int32)), (.int p3), (.int ((((((F4 p3 (0 : Int32) x5) + (F4 p3 (1 : Int32) x5)) + (F4 p3 (2 : Int32) x5)) + (F4 p3 (3 : Int32) x5)) + (F4 p3 (4 : Int32) x5)) + (F4 p3 (5 : Int32) x5)))]))
  obtain ⟨v7, _, ⟨T7, L7, k7, n7⟩, -, X7, ⟨Lc7, hQ7, l7, y7, z7⟩, st7⟩ := Jvm.LawKit.callS X6 hx (y := (⟨"com/example/wardsum/wardsum/model/GridMapFreeCellCountPinLaw", "one", "(III)I"⟩ : MethodName)) hown (mvT hZ (hw _ (List.mem_of_getElem? (i := 30) rfl))) (mvT hZ (hw _ (List.mem_of_getElem? (i := 31) rfl))) (mvT hZ (hw _ (List.mem_of_getElem? (i := 4) rfl))) (mvT hZ (hw _ (List.mem_of_getElem? (i := 32) rfl))) (by decide) (backOf (W := 1) (rm4 l Z a0 hw [] p3 (6 : Int32) x5 h0 n0 Z0 ) hZ (hw _ (List.mem_of_getElem? (i := 32) rfl)) (hw _ (List.mem_of_getElem? (i := 4) rfl)) (by decide) (by decide)) (g := (mkF m 308 #[.val (.int p1), .val (.int p2), .val (.int p3), .val (.int x3), .val (.int x4), .val (.int x5), .val (.ref b6), .val (.ref o7), .unset] [(.int x5), (.int (6 : Int32)), (.int p3), (.int ((((((F4 p3 (0 : Int32) x5) + (F4 p3 (1 : Int32) x5)) + (F4 p3 (2 : Int32) x5)) + (F4 p3 (3 : Int32) x5)) + (F4 p3 (4 : Int32) x5)) + (F4 p3 (5 : Int32) x5)))])) rfl (by rw [hml]; rfl) (argsL := [(.int p3), (.int (6 : Int32)), (.int x5)]) (rest := [(.int ((((((F4 p3 (0 : Int32) x5) + (F4 p3 (1 : Int32) x5)) + (F4 p3 (2 : Int32) x5)) + (F4 p3 (3 : Int32) x5)) + (F4 p3 (4 : Int32) x5)) + (F4 p3 (5 : Int32) x5)))]) (lenOf pd_2 rfl) rfl (by show 2 * 0 + _ ≤ _; exact Nat.le_of_eq rfl) (hb hby at_308) (fun _ _ => ⟨rfl, e6, (by decide : 3 + 0 ≤ _), (by decide : 27 + 0 ≤ _)⟩)
  dsimp only [Pt.U, Pt.locs, Pt.cells, Pt.slots] at X7 l7 y7 z7 st7 hQ7
  subst l7 y7 z7
  refine Done.step st7 ?_
  obtain ⟨rfl, N7q, e7⟩ := hQ7
  have N7 := Fr.app N6 N7q
  show Done p e below s _ _ _ (T7.setTop (mkF m 311 #[.val (.int p1), .val (.int p2), .val (.int p3), .val (.int x3), .val (.int x4), .val (.int x5), .val (.ref b6), .val (.ref o7), .unset] [(.int (F4 p3 (6 : Int32) x5)), (.int ((((((F4 p3 (0 : Int32) x5) + (F4 p3 (1 : Int32) x5)) + (F4 p3 (2 : Int32) x5)) + (F4 p3 (3 : Int32) x5)) + (F4 p3 (4 : Int32) x5)) + (F4 p3 (5 : Int32) x5)))]))
  refine Done.step (fun t k => XS.iadd X7.here hx rfl (hb hby at_311) rfl k) ?_
  show Done p e below s _ _ _ (T7.setTop (mkF m 312 #[.val (.int p1), .val (.int p2), .val (.int p3), .val (.int x3), .val (.int x4), .val (.int x5), .val (.ref b6), .val (.ref o7), .unset] [(.int (((((((F4 p3 (0 : Int32) x5) + (F4 p3 (1 : Int32) x5)) + (F4 p3 (2 : Int32) x5)) + (F4 p3 (3 : Int32) x5)) + (F4 p3 (4 : Int32) x5)) + (F4 p3 (5 : Int32) x5)) + (F4 p3 (6 : Int32) x5)))]))
  refine Done.step (fun t k => XS.iloadN X7.here hx rfl (hb hby at_312) rfl k) ?_
  show Done p e below s _ _ _ (T7.setTop (mkF m 313 #[.val (.int p1), .val (.int p2), .val (.int p3), .val (.int x3), .val (.int x4), .val (.int x5), .val (.ref b6), .val (.ref o7), .unset] [(.int p3), (.int (((((((F4 p3 (0 : Int32) x5) + (F4 p3 (1 : Int32) x5)) + (F4 p3 (2 : Int32) x5)) + (F4 p3 (3 : Int32) x5)) + (F4 p3 (4 : Int32) x5)) + (F4 p3 (5 : Int32) x5)) + (F4 p3 (6 : Int32) x5)))]))
  refine Done.step (fun t k => XS.bipush X7.here hx rfl (hb hby at_313) k) ?_
  show Done p e below s _ _ _ (T7.setTop (mkF m 315 #[.val (.int p1), .val (.int p2), .val (.int p3), .val (.int x3), .val (.int x4), .val (.int x5), .val (.ref b6), .val (.ref o7), .unset] [(.int (7 : Int32)), (.int p3), (.int (((((((F4 p3 (0 : Int32) x5) + (F4 p3 (1 : Int32) x5)) + (F4 p3 (2 : Int32) x5)) + (F4 p3 (3 : Int32) x5)) + (F4 p3 (4 : Int32) x5)) + (F4 p3 (5 : Int32) x5)) + (F4 p3 (6 : Int32) x5)))]))
  refine Done.step (fun t k => XS.iload X7.here hx rfl (hb hby at_315) rfl k) ?_
  show Done p e below s _ _ _ (T7.setTop (mkF m 317 #[.val (.int p1), .val (.int p2), .val (.int p3), .val (.int x3), .val (.int x4), .val (.int x5), .val (.ref b6), .val (.ref o7), .unset] [(.int x5), (.int (7 : Int32)), (.int p3), (.int (((((((F4 p3 (0 : Int32) x5) + (F4 p3 (1 : Int32) x5)) + (F4 p3 (2 : Int32) x5)) + (F4 p3 (3 : Int32) x5)) + (F4 p3 (4 : Int32) x5)) + (F4 p3 (5 : Int32) x5)) + (F4 p3 (6 : Int32) x5)))]))
  obtain ⟨v8, _, ⟨T8, L8, k8, n8⟩, -, X8, ⟨Lc8, hQ8, l8, y8, z8⟩, st8⟩ := Jvm.LawKit.callS X7 hx (y := (⟨"com/example/wardsum/wardsum/model/GridMapFreeCellCountPinLaw", "one", "(III)I"⟩ : MethodName)) hown (mvT hZ (hw _ (List.mem_of_getElem? (i := 30) rfl))) (mvT hZ (hw _ (List.mem_of_getElem? (i := 31) rfl))) (mvT hZ (hw _ (List.mem_of_getElem? (i := 4) rfl))) (mvT hZ (hw _ (List.mem_of_getElem? (i := 32) rfl))) (by decide) (backOf (W := 1) (rm4 l Z a0 hw [] p3 (7 : Int32) x5 h0 n0 Z0 ) hZ (hw _ (List.mem_of_getElem? (i := 32) rfl)) (hw _ (List.mem_of_getElem? (i := 4) rfl)) (by decide) (by decide)) (g := (mkF m 317 #[.val (.int p1), .val (.int p2), .val (.int p3), .val (.int x3), .val (.int x4), .val (.int x5), .val (.ref b6), .val (.ref o7), .unset] [(.int x5), (.int (7 : Int32)), (.int p3), (.int (((((((F4 p3 (0 : Int32) x5) + (F4 p3 (1 : Int32) x5)) + (F4 p3 (2 : Int32) x5)) + (F4 p3 (3 : Int32) x5)) + (F4 p3 (4 : Int32) x5)) + (F4 p3 (5 : Int32) x5)) + (F4 p3 (6 : Int32) x5)))])) rfl (by rw [hml]; rfl) (argsL := [(.int p3), (.int (7 : Int32)), (.int x5)]) (rest := [(.int (((((((F4 p3 (0 : Int32) x5) + (F4 p3 (1 : Int32) x5)) + (F4 p3 (2 : Int32) x5)) + (F4 p3 (3 : Int32) x5)) + (F4 p3 (4 : Int32) x5)) + (F4 p3 (5 : Int32) x5)) + (F4 p3 (6 : Int32) x5)))]) (lenOf pd_2 rfl) rfl (by show 2 * 0 + _ ≤ _; exact Nat.le_of_eq rfl) (hb hby at_317) (fun _ _ => ⟨rfl, e7, (by decide : 3 + 0 ≤ _), (by decide : 27 + 0 ≤ _)⟩)
  dsimp only [Pt.U, Pt.locs, Pt.cells, Pt.slots] at X8 l8 y8 z8 st8 hQ8
  subst l8 y8 z8
  refine Done.step st8 ?_
  obtain ⟨rfl, N8q, e8⟩ := hQ8
  have N8 := Fr.app N7 N8q
  show Done p e below s _ _ _ (T8.setTop (mkF m 320 #[.val (.int p1), .val (.int p2), .val (.int p3), .val (.int x3), .val (.int x4), .val (.int x5), .val (.ref b6), .val (.ref o7), .unset] [(.int (F4 p3 (7 : Int32) x5)), (.int (((((((F4 p3 (0 : Int32) x5) + (F4 p3 (1 : Int32) x5)) + (F4 p3 (2 : Int32) x5)) + (F4 p3 (3 : Int32) x5)) + (F4 p3 (4 : Int32) x5)) + (F4 p3 (5 : Int32) x5)) + (F4 p3 (6 : Int32) x5)))]))
  refine Done.step (fun t k => XS.iadd X8.here hx rfl (hb hby at_320) rfl k) ?_
  show Done p e below s _ _ _ (T8.setTop (mkF m 321 #[.val (.int p1), .val (.int p2), .val (.int p3), .val (.int x3), .val (.int x4), .val (.int x5), .val (.ref b6), .val (.ref o7), .unset] [(.int ((((((((F4 p3 (0 : Int32) x5) + (F4 p3 (1 : Int32) x5)) + (F4 p3 (2 : Int32) x5)) + (F4 p3 (3 : Int32) x5)) + (F4 p3 (4 : Int32) x5)) + (F4 p3 (5 : Int32) x5)) + (F4 p3 (6 : Int32) x5)) + (F4 p3 (7 : Int32) x5)))]))
  refine Done.step (fun t k => XS.iloadN X8.here hx rfl (hb hby at_321) rfl k) ?_
  show Done p e below s _ _ _ (T8.setTop (mkF m 322 #[.val (.int p1), .val (.int p2), .val (.int p3), .val (.int x3), .val (.int x4), .val (.int x5), .val (.ref b6), .val (.ref o7), .unset] [(.int p3), (.int ((((((((F4 p3 (0 : Int32) x5) + (F4 p3 (1 : Int32) x5)) + (F4 p3 (2 : Int32) x5)) + (F4 p3 (3 : Int32) x5)) + (F4 p3 (4 : Int32) x5)) + (F4 p3 (5 : Int32) x5)) + (F4 p3 (6 : Int32) x5)) + (F4 p3 (7 : Int32) x5)))]))
  refine Done.step (fun t k => XS.bipush X8.here hx rfl (hb hby at_322) k) ?_
  show Done p e below s _ _ _ (T8.setTop (mkF m 324 #[.val (.int p1), .val (.int p2), .val (.int p3), .val (.int x3), .val (.int x4), .val (.int x5), .val (.ref b6), .val (.ref o7), .unset] [(.int (8 : Int32)), (.int p3), (.int ((((((((F4 p3 (0 : Int32) x5) + (F4 p3 (1 : Int32) x5)) + (F4 p3 (2 : Int32) x5)) + (F4 p3 (3 : Int32) x5)) + (F4 p3 (4 : Int32) x5)) + (F4 p3 (5 : Int32) x5)) + (F4 p3 (6 : Int32) x5)) + (F4 p3 (7 : Int32) x5)))]))
  refine Done.step (fun t k => XS.iload X8.here hx rfl (hb hby at_324) rfl k) ?_
  show Done p e below s _ _ _ (T8.setTop (mkF m 326 #[.val (.int p1), .val (.int p2), .val (.int p3), .val (.int x3), .val (.int x4), .val (.int x5), .val (.ref b6), .val (.ref o7), .unset] [(.int x5), (.int (8 : Int32)), (.int p3), (.int ((((((((F4 p3 (0 : Int32) x5) + (F4 p3 (1 : Int32) x5)) + (F4 p3 (2 : Int32) x5)) + (F4 p3 (3 : Int32) x5)) + (F4 p3 (4 : Int32) x5)) + (F4 p3 (5 : Int32) x5)) + (F4 p3 (6 : Int32) x5)) + (F4 p3 (7 : Int32) x5)))]))
  obtain ⟨v9, _, ⟨T9, L9, k9, n9⟩, -, X9, ⟨Lc9, hQ9, l9, y9, z9⟩, st9⟩ := Jvm.LawKit.callS X8 hx (y := (⟨"com/example/wardsum/wardsum/model/GridMapFreeCellCountPinLaw", "one", "(III)I"⟩ : MethodName)) hown (mvT hZ (hw _ (List.mem_of_getElem? (i := 30) rfl))) (mvT hZ (hw _ (List.mem_of_getElem? (i := 31) rfl))) (mvT hZ (hw _ (List.mem_of_getElem? (i := 4) rfl))) (mvT hZ (hw _ (List.mem_of_getElem? (i := 32) rfl))) (by decide) (backOf (W := 1) (rm4 l Z a0 hw [] p3 (8 : Int32) x5 h0 n0 Z0 ) hZ (hw _ (List.mem_of_getElem? (i := 32) rfl)) (hw _ (List.mem_of_getElem? (i := 4) rfl)) (by decide) (by decide)) (g := (mkF m 326 #[.val (.int p1), .val (.int p2), .val (.int p3), .val (.int x3), .val (.int x4), .val (.int x5), .val (.ref b6), .val (.ref o7), .unset] [(.int x5), (.int (8 : Int32)), (.int p3), (.int ((((((((F4 p3 (0 : Int32) x5) + (F4 p3 (1 : Int32) x5)) + (F4 p3 (2 : Int32) x5)) + (F4 p3 (3 : Int32) x5)) + (F4 p3 (4 : Int32) x5)) + (F4 p3 (5 : Int32) x5)) + (F4 p3 (6 : Int32) x5)) + (F4 p3 (7 : Int32) x5)))])) rfl (by rw [hml]; rfl) (argsL := [(.int p3), (.int (8 : Int32)), (.int x5)]) (rest := [(.int ((((((((F4 p3 (0 : Int32) x5) + (F4 p3 (1 : Int32) x5)) + (F4 p3 (2 : Int32) x5)) + (F4 p3 (3 : Int32) x5)) + (F4 p3 (4 : Int32) x5)) + (F4 p3 (5 : Int32) x5)) + (F4 p3 (6 : Int32) x5)) + (F4 p3 (7 : Int32) x5)))]) (lenOf pd_2 rfl) rfl (by show 2 * 0 + _ ≤ _; exact Nat.le_of_eq rfl) (hb hby at_326) (fun _ _ => ⟨rfl, e8, (by decide : 3 + 0 ≤ _), (by decide : 27 + 0 ≤ _)⟩)
  dsimp only [Pt.U, Pt.locs, Pt.cells, Pt.slots] at X9 l9 y9 z9 st9 hQ9
  subst l9 y9 z9
  refine Done.step st9 ?_
  obtain ⟨rfl, N9q, e9⟩ := hQ9
  have N9 := Fr.app N8 N9q
  show Done p e below s _ _ _ (T9.setTop (mkF m 329 #[.val (.int p1), .val (.int p2), .val (.int p3), .val (.int x3), .val (.int x4), .val (.int x5), .val (.ref b6), .val (.ref o7), .unset] [(.int (F4 p3 (8 : Int32) x5)), (.int ((((((((F4 p3 (0 : Int32) x5) + (F4 p3 (1 : Int32) x5)) + (F4 p3 (2 : Int32) x5)) + (F4 p3 (3 : Int32) x5)) + (F4 p3 (4 : Int32) x5)) + (F4 p3 (5 : Int32) x5)) + (F4 p3 (6 : Int32) x5)) + (F4 p3 (7 : Int32) x5)))]))
  refine Done.step (fun t k => XS.iadd X9.here hx rfl (hb hby at_329) rfl k) ?_
  show Done p e below s _ _ _ (T9.setTop (mkF m 330 #[.val (.int p1), .val (.int p2), .val (.int p3), .val (.int x3), .val (.int x4), .val (.int x5), .val (.ref b6), .val (.ref o7), .unset] [(.int (((((((((F4 p3 (0 : Int32) x5) + (F4 p3 (1 : Int32) x5)) + (F4 p3 (2 : Int32) x5)) + (F4 p3 (3 : Int32) x5)) + (F4 p3 (4 : Int32) x5)) + (F4 p3 (5 : Int32) x5)) + (F4 p3 (6 : Int32) x5)) + (F4 p3 (7 : Int32) x5)) + (F4 p3 (8 : Int32) x5)))]))
  refine Done.step (fun t k => XS.iloadN X9.here hx rfl (hb hby at_330) rfl k) ?_
  show Done p e below s _ _ _ (T9.setTop (mkF m 331 #[.val (.int p1), .val (.int p2), .val (.int p3), .val (.int x3), .val (.int x4), .val (.int x5), .val (.ref b6), .val (.ref o7), .unset] [(.int p3), (.int (((((((((F4 p3 (0 : Int32) x5) + (F4 p3 (1 : Int32) x5)) + (F4 p3 (2 : Int32) x5)) + (F4 p3 (3 : Int32) x5)) + (F4 p3 (4 : Int32) x5)) + (F4 p3 (5 : Int32) x5)) + (F4 p3 (6 : Int32) x5)) + (F4 p3 (7 : Int32) x5)) + (F4 p3 (8 : Int32) x5)))]))
  refine Done.step (fun t k => XS.bipush X9.here hx rfl (hb hby at_331) k) ?_
  show Done p e below s _ _ _ (T9.setTop (mkF m 333 #[.val (.int p1), .val (.int p2), .val (.int p3), .val (.int x3), .val (.int x4), .val (.int x5), .val (.ref b6), .val (.ref o7), .unset] [(.int (9 : Int32)), (.int p3), (.int (((((((((F4 p3 (0 : Int32) x5) + (F4 p3 (1 : Int32) x5)) + (F4 p3 (2 : Int32) x5)) + (F4 p3 (3 : Int32) x5)) + (F4 p3 (4 : Int32) x5)) + (F4 p3 (5 : Int32) x5)) + (F4 p3 (6 : Int32) x5)) + (F4 p3 (7 : Int32) x5)) + (F4 p3 (8 : Int32) x5)))]))
  refine Done.step (fun t k => XS.iload X9.here hx rfl (hb hby at_333) rfl k) ?_
  show Done p e below s _ _ _ (T9.setTop (mkF m 335 #[.val (.int p1), .val (.int p2), .val (.int p3), .val (.int x3), .val (.int x4), .val (.int x5), .val (.ref b6), .val (.ref o7), .unset] [(.int x5), (.int (9 : Int32)), (.int p3), (.int (((((((((F4 p3 (0 : Int32) x5) + (F4 p3 (1 : Int32) x5)) + (F4 p3 (2 : Int32) x5)) + (F4 p3 (3 : Int32) x5)) + (F4 p3 (4 : Int32) x5)) + (F4 p3 (5 : Int32) x5)) + (F4 p3 (6 : Int32) x5)) + (F4 p3 (7 : Int32) x5)) + (F4 p3 (8 : Int32) x5)))]))
  obtain ⟨v10, _, ⟨T10, L10, k10, n10⟩, -, X10, ⟨Lc10, hQ10, l10, y10, z10⟩, st10⟩ := Jvm.LawKit.callS X9 hx (y := (⟨"com/example/wardsum/wardsum/model/GridMapFreeCellCountPinLaw", "one", "(III)I"⟩ : MethodName)) hown (mvT hZ (hw _ (List.mem_of_getElem? (i := 30) rfl))) (mvT hZ (hw _ (List.mem_of_getElem? (i := 31) rfl))) (mvT hZ (hw _ (List.mem_of_getElem? (i := 4) rfl))) (mvT hZ (hw _ (List.mem_of_getElem? (i := 32) rfl))) (by decide) (backOf (W := 1) (rm4 l Z a0 hw [] p3 (9 : Int32) x5 h0 n0 Z0 ) hZ (hw _ (List.mem_of_getElem? (i := 32) rfl)) (hw _ (List.mem_of_getElem? (i := 4) rfl)) (by decide) (by decide)) (g := (mkF m 335 #[.val (.int p1), .val (.int p2), .val (.int p3), .val (.int x3), .val (.int x4), .val (.int x5), .val (.ref b6), .val (.ref o7), .unset] [(.int x5), (.int (9 : Int32)), (.int p3), (.int (((((((((F4 p3 (0 : Int32) x5) + (F4 p3 (1 : Int32) x5)) + (F4 p3 (2 : Int32) x5)) + (F4 p3 (3 : Int32) x5)) + (F4 p3 (4 : Int32) x5)) + (F4 p3 (5 : Int32) x5)) + (F4 p3 (6 : Int32) x5)) + (F4 p3 (7 : Int32) x5)) + (F4 p3 (8 : Int32) x5)))])) rfl (by rw [hml]; rfl) (argsL := [(.int p3), (.int (9 : Int32)), (.int x5)]) (rest := [(.int (((((((((F4 p3 (0 : Int32) x5) + (F4 p3 (1 : Int32) x5)) + (F4 p3 (2 : Int32) x5)) + (F4 p3 (3 : Int32) x5)) + (F4 p3 (4 : Int32) x5)) + (F4 p3 (5 : Int32) x5)) + (F4 p3 (6 : Int32) x5)) + (F4 p3 (7 : Int32) x5)) + (F4 p3 (8 : Int32) x5)))]) (lenOf pd_2 rfl) rfl (by show 2 * 0 + _ ≤ _; exact Nat.le_of_eq rfl) (hb hby at_335) (fun _ _ => ⟨rfl, e9, (by decide : 3 + 0 ≤ _), (by decide : 27 + 0 ≤ _)⟩)
  dsimp only [Pt.U, Pt.locs, Pt.cells, Pt.slots] at X10 l10 y10 z10 st10 hQ10
  subst l10 y10 z10
  refine Done.step st10 ?_
  obtain ⟨rfl, N10q, e10⟩ := hQ10
  have N10 := Fr.app N9 N10q
  show Done p e below s _ _ _ (T10.setTop (mkF m 338 #[.val (.int p1), .val (.int p2), .val (.int p3), .val (.int x3), .val (.int x4), .val (.int x5), .val (.ref b6), .val (.ref o7), .unset] [(.int (F4 p3 (9 : Int32) x5)), (.int (((((((((F4 p3 (0 : Int32) x5) + (F4 p3 (1 : Int32) x5)) + (F4 p3 (2 : Int32) x5)) + (F4 p3 (3 : Int32) x5)) + (F4 p3 (4 : Int32) x5)) + (F4 p3 (5 : Int32) x5)) + (F4 p3 (6 : Int32) x5)) + (F4 p3 (7 : Int32) x5)) + (F4 p3 (8 : Int32) x5)))]))
  refine Done.step (fun t k => XS.iadd X10.here hx rfl (hb hby at_338) rfl k) ?_
  show Done p e below s _ _ _ (T10.setTop (mkF m 339 #[.val (.int p1), .val (.int p2), .val (.int p3), .val (.int x3), .val (.int x4), .val (.int x5), .val (.ref b6), .val (.ref o7), .unset] [(.int ((((((((((F4 p3 (0 : Int32) x5) + (F4 p3 (1 : Int32) x5)) + (F4 p3 (2 : Int32) x5)) + (F4 p3 (3 : Int32) x5)) + (F4 p3 (4 : Int32) x5)) + (F4 p3 (5 : Int32) x5)) + (F4 p3 (6 : Int32) x5)) + (F4 p3 (7 : Int32) x5)) + (F4 p3 (8 : Int32) x5)) + (F4 p3 (9 : Int32) x5)))]))
  refine Done.step (fun t k => XS.iloadN X10.here hx rfl (hb hby at_339) rfl k) ?_
  show Done p e below s _ _ _ (T10.setTop (mkF m 340 #[.val (.int p1), .val (.int p2), .val (.int p3), .val (.int x3), .val (.int x4), .val (.int x5), .val (.ref b6), .val (.ref o7), .unset] [(.int p3), (.int ((((((((((F4 p3 (0 : Int32) x5) + (F4 p3 (1 : Int32) x5)) + (F4 p3 (2 : Int32) x5)) + (F4 p3 (3 : Int32) x5)) + (F4 p3 (4 : Int32) x5)) + (F4 p3 (5 : Int32) x5)) + (F4 p3 (6 : Int32) x5)) + (F4 p3 (7 : Int32) x5)) + (F4 p3 (8 : Int32) x5)) + (F4 p3 (9 : Int32) x5)))]))
  refine Done.step (fun t k => XS.bipush X10.here hx rfl (hb hby at_340) k) ?_
  show Done p e below s _ _ _ (T10.setTop (mkF m 342 #[.val (.int p1), .val (.int p2), .val (.int p3), .val (.int x3), .val (.int x4), .val (.int x5), .val (.ref b6), .val (.ref o7), .unset] [(.int (10 : Int32)), (.int p3), (.int ((((((((((F4 p3 (0 : Int32) x5) + (F4 p3 (1 : Int32) x5)) + (F4 p3 (2 : Int32) x5)) + (F4 p3 (3 : Int32) x5)) + (F4 p3 (4 : Int32) x5)) + (F4 p3 (5 : Int32) x5)) + (F4 p3 (6 : Int32) x5)) + (F4 p3 (7 : Int32) x5)) + (F4 p3 (8 : Int32) x5)) + (F4 p3 (9 : Int32) x5)))]))
  refine Done.step (fun t k => XS.iload X10.here hx rfl (hb hby at_342) rfl k) ?_
  show Done p e below s _ _ _ (T10.setTop (mkF m 344 #[.val (.int p1), .val (.int p2), .val (.int p3), .val (.int x3), .val (.int x4), .val (.int x5), .val (.ref b6), .val (.ref o7), .unset] [(.int x5), (.int (10 : Int32)), (.int p3), (.int ((((((((((F4 p3 (0 : Int32) x5) + (F4 p3 (1 : Int32) x5)) + (F4 p3 (2 : Int32) x5)) + (F4 p3 (3 : Int32) x5)) + (F4 p3 (4 : Int32) x5)) + (F4 p3 (5 : Int32) x5)) + (F4 p3 (6 : Int32) x5)) + (F4 p3 (7 : Int32) x5)) + (F4 p3 (8 : Int32) x5)) + (F4 p3 (9 : Int32) x5)))]))
  obtain ⟨v11, _, ⟨T11, L11, k11, n11⟩, -, X11, ⟨Lc11, hQ11, l11, y11, z11⟩, st11⟩ := Jvm.LawKit.callS X10 hx (y := (⟨"com/example/wardsum/wardsum/model/GridMapFreeCellCountPinLaw", "one", "(III)I"⟩ : MethodName)) hown (mvT hZ (hw _ (List.mem_of_getElem? (i := 30) rfl))) (mvT hZ (hw _ (List.mem_of_getElem? (i := 31) rfl))) (mvT hZ (hw _ (List.mem_of_getElem? (i := 4) rfl))) (mvT hZ (hw _ (List.mem_of_getElem? (i := 32) rfl))) (by decide) (backOf (W := 1) (rm4 l Z a0 hw [] p3 (10 : Int32) x5 h0 n0 Z0 ) hZ (hw _ (List.mem_of_getElem? (i := 32) rfl)) (hw _ (List.mem_of_getElem? (i := 4) rfl)) (by decide) (by decide)) (g := (mkF m 344 #[.val (.int p1), .val (.int p2), .val (.int p3), .val (.int x3), .val (.int x4), .val (.int x5), .val (.ref b6), .val (.ref o7), .unset] [(.int x5), (.int (10 : Int32)), (.int p3), (.int ((((((((((F4 p3 (0 : Int32) x5) + (F4 p3 (1 : Int32) x5)) + (F4 p3 (2 : Int32) x5)) + (F4 p3 (3 : Int32) x5)) + (F4 p3 (4 : Int32) x5)) + (F4 p3 (5 : Int32) x5)) + (F4 p3 (6 : Int32) x5)) + (F4 p3 (7 : Int32) x5)) + (F4 p3 (8 : Int32) x5)) + (F4 p3 (9 : Int32) x5)))])) rfl (by rw [hml]; rfl) (argsL := [(.int p3), (.int (10 : Int32)), (.int x5)]) (rest := [(.int ((((((((((F4 p3 (0 : Int32) x5) + (F4 p3 (1 : Int32) x5)) + (F4 p3 (2 : Int32) x5)) + (F4 p3 (3 : Int32) x5)) + (F4 p3 (4 : Int32) x5)) + (F4 p3 (5 : Int32) x5)) + (F4 p3 (6 : Int32) x5)) + (F4 p3 (7 : Int32) x5)) + (F4 p3 (8 : Int32) x5)) + (F4 p3 (9 : Int32) x5)))]) (lenOf pd_2 rfl) rfl (by show 2 * 0 + _ ≤ _; exact Nat.le_of_eq rfl) (hb hby at_344) (fun _ _ => ⟨rfl, e10, (by decide : 3 + 0 ≤ _), (by decide : 27 + 0 ≤ _)⟩)
  dsimp only [Pt.U, Pt.locs, Pt.cells, Pt.slots] at X11 l11 y11 z11 st11 hQ11
  subst l11 y11 z11
  refine Done.step st11 ?_
  obtain ⟨rfl, N11q, e11⟩ := hQ11
  have N11 := Fr.app N10 N11q
  show Done p e below s _ _ _ (T11.setTop (mkF m 347 #[.val (.int p1), .val (.int p2), .val (.int p3), .val (.int x3), .val (.int x4), .val (.int x5), .val (.ref b6), .val (.ref o7), .unset] [(.int (F4 p3 (10 : Int32) x5)), (.int ((((((((((F4 p3 (0 : Int32) x5) + (F4 p3 (1 : Int32) x5)) + (F4 p3 (2 : Int32) x5)) + (F4 p3 (3 : Int32) x5)) + (F4 p3 (4 : Int32) x5)) + (F4 p3 (5 : Int32) x5)) + (F4 p3 (6 : Int32) x5)) + (F4 p3 (7 : Int32) x5)) + (F4 p3 (8 : Int32) x5)) + (F4 p3 (9 : Int32) x5)))]))
  refine Done.step (fun t k => XS.iadd X11.here hx rfl (hb hby at_347) rfl k) ?_
  show Done p e below s _ _ _ (T11.setTop (mkF m 348 #[.val (.int p1), .val (.int p2), .val (.int p3), .val (.int x3), .val (.int x4), .val (.int x5), .val (.ref b6), .val (.ref o7), .unset] [(.int (((((((((((F4 p3 (0 : Int32) x5) + (F4 p3 (1 : Int32) x5)) + (F4 p3 (2 : Int32) x5)) + (F4 p3 (3 : Int32) x5)) + (F4 p3 (4 : Int32) x5)) + (F4 p3 (5 : Int32) x5)) + (F4 p3 (6 : Int32) x5)) + (F4 p3 (7 : Int32) x5)) + (F4 p3 (8 : Int32) x5)) + (F4 p3 (9 : Int32) x5)) + (F4 p3 (10 : Int32) x5)))]))
  refine Done.step (fun t k => XS.iloadN X11.here hx rfl (hb hby at_348) rfl k) ?_
  show Done p e below s _ _ _ (T11.setTop (mkF m 349 #[.val (.int p1), .val (.int p2), .val (.int p3), .val (.int x3), .val (.int x4), .val (.int x5), .val (.ref b6), .val (.ref o7), .unset] [(.int p3), (.int (((((((((((F4 p3 (0 : Int32) x5) + (F4 p3 (1 : Int32) x5)) + (F4 p3 (2 : Int32) x5)) + (F4 p3 (3 : Int32) x5)) + (F4 p3 (4 : Int32) x5)) + (F4 p3 (5 : Int32) x5)) + (F4 p3 (6 : Int32) x5)) + (F4 p3 (7 : Int32) x5)) + (F4 p3 (8 : Int32) x5)) + (F4 p3 (9 : Int32) x5)) + (F4 p3 (10 : Int32) x5)))]))
  refine Done.step (fun t k => XS.bipush X11.here hx rfl (hb hby at_349) k) ?_
  show Done p e below s _ _ _ (T11.setTop (mkF m 351 #[.val (.int p1), .val (.int p2), .val (.int p3), .val (.int x3), .val (.int x4), .val (.int x5), .val (.ref b6), .val (.ref o7), .unset] [(.int (11 : Int32)), (.int p3), (.int (((((((((((F4 p3 (0 : Int32) x5) + (F4 p3 (1 : Int32) x5)) + (F4 p3 (2 : Int32) x5)) + (F4 p3 (3 : Int32) x5)) + (F4 p3 (4 : Int32) x5)) + (F4 p3 (5 : Int32) x5)) + (F4 p3 (6 : Int32) x5)) + (F4 p3 (7 : Int32) x5)) + (F4 p3 (8 : Int32) x5)) + (F4 p3 (9 : Int32) x5)) + (F4 p3 (10 : Int32) x5)))]))
  refine Done.step (fun t k => XS.iload X11.here hx rfl (hb hby at_351) rfl k) ?_
  show Done p e below s _ _ _ (T11.setTop (mkF m 353 #[.val (.int p1), .val (.int p2), .val (.int p3), .val (.int x3), .val (.int x4), .val (.int x5), .val (.ref b6), .val (.ref o7), .unset] [(.int x5), (.int (11 : Int32)), (.int p3), (.int (((((((((((F4 p3 (0 : Int32) x5) + (F4 p3 (1 : Int32) x5)) + (F4 p3 (2 : Int32) x5)) + (F4 p3 (3 : Int32) x5)) + (F4 p3 (4 : Int32) x5)) + (F4 p3 (5 : Int32) x5)) + (F4 p3 (6 : Int32) x5)) + (F4 p3 (7 : Int32) x5)) + (F4 p3 (8 : Int32) x5)) + (F4 p3 (9 : Int32) x5)) + (F4 p3 (10 : Int32) x5)))]))
  obtain ⟨v12, _, ⟨T12, L12, k12, n12⟩, -, X12, ⟨Lc12, hQ12, l12, y12, z12⟩, st12⟩ := Jvm.LawKit.callS X11 hx (y := (⟨"com/example/wardsum/wardsum/model/GridMapFreeCellCountPinLaw", "one", "(III)I"⟩ : MethodName)) hown (mvT hZ (hw _ (List.mem_of_getElem? (i := 30) rfl))) (mvT hZ (hw _ (List.mem_of_getElem? (i := 31) rfl))) (mvT hZ (hw _ (List.mem_of_getElem? (i := 4) rfl))) (mvT hZ (hw _ (List.mem_of_getElem? (i := 32) rfl))) (by decide) (backOf (W := 1) (rm4 l Z a0 hw [] p3 (11 : Int32) x5 h0 n0 Z0 ) hZ (hw _ (List.mem_of_getElem? (i := 32) rfl)) (hw _ (List.mem_of_getElem? (i := 4) rfl)) (by decide) (by decide)) (g := (mkF m 353 #[.val (.int p1), .val (.int p2), .val (.int p3), .val (.int x3), .val (.int x4), .val (.int x5), .val (.ref b6), .val (.ref o7), .unset] [(.int x5), (.int (11 : Int32)), (.int p3), (.int (((((((((((F4 p3 (0 : Int32) x5) + (F4 p3 (1 : Int32) x5)) + (F4 p3 (2 : Int32) x5)) + (F4 p3 (3 : Int32) x5)) + (F4 p3 (4 : Int32) x5)) + (F4 p3 (5 : Int32) x5)) + (F4 p3 (6 : Int32) x5)) + (F4 p3 (7 : Int32) x5)) + (F4 p3 (8 : Int32) x5)) + (F4 p3 (9 : Int32) x5)) + (F4 p3 (10 : Int32) x5)))])) rfl (by rw [hml]; rfl) (argsL := [(.int p3), (.int (11 : Int32)), (.int x5)]) (rest := [(.int (((((((((((F4 p3 (0 : Int32) x5) + (F4 p3 (1 : Int32) x5)) + (F4 p3 (2 : Int32) x5)) + (F4 p3 (3 : Int32) x5)) + (F4 p3 (4 : Int32) x5)) + (F4 p3 (5 : Int32) x5)) + (F4 p3 (6 : Int32) x5)) + (F4 p3 (7 : Int32) x5)) + (F4 p3 (8 : Int32) x5)) + (F4 p3 (9 : Int32) x5)) + (F4 p3 (10 : Int32) x5)))]) (lenOf pd_2 rfl) rfl (by show 2 * 0 + _ ≤ _; exact Nat.le_of_eq rfl) (hb hby at_353) (fun _ _ => ⟨rfl, e11, (by decide : 3 + 0 ≤ _), (by decide : 27 + 0 ≤ _)⟩)
  dsimp only [Pt.U, Pt.locs, Pt.cells, Pt.slots] at X12 l12 y12 z12 st12 hQ12
  subst l12 y12 z12
  refine Done.step st12 ?_
  obtain ⟨rfl, N12q, e12⟩ := hQ12
  have N12 := Fr.app N11 N12q
  show Done p e below s _ _ _ (T12.setTop (mkF m 356 #[.val (.int p1), .val (.int p2), .val (.int p3), .val (.int x3), .val (.int x4), .val (.int x5), .val (.ref b6), .val (.ref o7), .unset] [(.int (F4 p3 (11 : Int32) x5)), (.int (((((((((((F4 p3 (0 : Int32) x5) + (F4 p3 (1 : Int32) x5)) + (F4 p3 (2 : Int32) x5)) + (F4 p3 (3 : Int32) x5)) + (F4 p3 (4 : Int32) x5)) + (F4 p3 (5 : Int32) x5)) + (F4 p3 (6 : Int32) x5)) + (F4 p3 (7 : Int32) x5)) + (F4 p3 (8 : Int32) x5)) + (F4 p3 (9 : Int32) x5)) + (F4 p3 (10 : Int32) x5)))]))
  refine Done.step (fun t k => XS.iadd X12.here hx rfl (hb hby at_356) rfl k) ?_
  show Done p e below s _ _ _ (T12.setTop (mkF m 357 #[.val (.int p1), .val (.int p2), .val (.int p3), .val (.int x3), .val (.int x4), .val (.int x5), .val (.ref b6), .val (.ref o7), .unset] [(.int ((((((((((((F4 p3 (0 : Int32) x5) + (F4 p3 (1 : Int32) x5)) + (F4 p3 (2 : Int32) x5)) + (F4 p3 (3 : Int32) x5)) + (F4 p3 (4 : Int32) x5)) + (F4 p3 (5 : Int32) x5)) + (F4 p3 (6 : Int32) x5)) + (F4 p3 (7 : Int32) x5)) + (F4 p3 (8 : Int32) x5)) + (F4 p3 (9 : Int32) x5)) + (F4 p3 (10 : Int32) x5)) + (F4 p3 (11 : Int32) x5)))]))
  refine Done.step (fun t k => XS.istore X12.here hx rfl (hb hby at_357) rfl (l' := #[.val (.int p1), .val (.int p2), .val (.int p3), .val (.int x3), .val (.int x4), .val (.int x5), .val (.ref b6), .val (.ref o7), .val (.int ((((((((((((F4 p3 (0 : Int32) x5) + (F4 p3 (1 : Int32) x5)) + (F4 p3 (2 : Int32) x5)) + (F4 p3 (3 : Int32) x5)) + (F4 p3 (4 : Int32) x5)) + (F4 p3 (5 : Int32) x5)) + (F4 p3 (6 : Int32) x5)) + (F4 p3 (7 : Int32) x5)) + (F4 p3 (8 : Int32) x5)) + (F4 p3 (9 : Int32) x5)) + (F4 p3 (10 : Int32) x5)) + (F4 p3 (11 : Int32) x5)))]) rfl k) ?_
  show Done p e below s _ _ _ (T12.setTop (mkF m 359 #[.val (.int p1), .val (.int p2), .val (.int p3), .val (.int x3), .val (.int x4), .val (.int x5), .val (.ref b6), .val (.ref o7), .val (.int ((((((((((((F4 p3 (0 : Int32) x5) + (F4 p3 (1 : Int32) x5)) + (F4 p3 (2 : Int32) x5)) + (F4 p3 (3 : Int32) x5)) + (F4 p3 (4 : Int32) x5)) + (F4 p3 (5 : Int32) x5)) + (F4 p3 (6 : Int32) x5)) + (F4 p3 (7 : Int32) x5)) + (F4 p3 (8 : Int32) x5)) + (F4 p3 (9 : Int32) x5)) + (F4 p3 (10 : Int32) x5)) + (F4 p3 (11 : Int32) x5)))] []))
  refine Done.step (fun t k => XS.aload X12.here hx rfl (hb hby at_359) rfl rfl k) ?_
  show Done p e below s _ _ _ (T12.setTop (mkF m 361 #[.val (.int p1), .val (.int p2), .val (.int p3), .val (.int x3), .val (.int x4), .val (.int x5), .val (.ref b6), .val (.ref o7), .val (.int ((((((((((((F4 p3 (0 : Int32) x5) + (F4 p3 (1 : Int32) x5)) + (F4 p3 (2 : Int32) x5)) + (F4 p3 (3 : Int32) x5)) + (F4 p3 (4 : Int32) x5)) + (F4 p3 (5 : Int32) x5)) + (F4 p3 (6 : Int32) x5)) + (F4 p3 (7 : Int32) x5)) + (F4 p3 (8 : Int32) x5)) + (F4 p3 (9 : Int32) x5)) + (F4 p3 (10 : Int32) x5)) + (F4 p3 (11 : Int32) x5)))] [(.ref o7)]))
  obtain ⟨cq13, kq13, q13a, q13b, q13c⟩ := isOf hZ e12 E7
  obtain ⟨v13, _, ⟨T13, L13, k13, n13⟩, -, X13, ⟨Lc13, hQ13, l13, y13, z13⟩, st13⟩ := X12.virtualBack hx (y := (⟨"com/example/wardsum/wardsum/model/GridMap", "freeCellCount", "()I"⟩ : MethodName)) (z := (⟨"com/example/wardsum/wardsum/model/GridMap", "freeCellCount", "()I"⟩ : MethodName)) hown (mvT hZ (hw _ (List.mem_of_getElem? (i := 33) rfl))) (mvT hZ (hw _ (List.mem_of_getElem? (i := 34) rfl))) (notFace_of_selects (args := #[]) (mvT hZ (hw _ (List.mem_of_getElem? (i := 36) rfl)))) (mvT hZ (hw _ (List.mem_of_getElem? (i := 36) rfl))) (mvT hZ (hw _ (List.mem_of_getElem? (i := 35) rfl))) (by decide) (backOf (W := 0) (rm5 l Z a0 hw [] o7 d7 (VL p3 nn 12) h0 n0 Z0 F7 A7 (by rw [VL_len]; omega)) hZ (hw _ (List.mem_of_getElem? (i := 37) rfl)) (hw _ (List.mem_of_getElem? (i := 8) rfl)) (by decide) (by decide)) q13a q13c (g := (mkF m 361 #[.val (.int p1), .val (.int p2), .val (.int p3), .val (.int x3), .val (.int x4), .val (.int x5), .val (.ref b6), .val (.ref o7), .val (.int ((((((((((((F4 p3 (0 : Int32) x5) + (F4 p3 (1 : Int32) x5)) + (F4 p3 (2 : Int32) x5)) + (F4 p3 (3 : Int32) x5)) + (F4 p3 (4 : Int32) x5)) + (F4 p3 (5 : Int32) x5)) + (F4 p3 (6 : Int32) x5)) + (F4 p3 (7 : Int32) x5)) + (F4 p3 (8 : Int32) x5)) + (F4 p3 (9 : Int32) x5)) + (F4 p3 (10 : Int32) x5)) + (F4 p3 (11 : Int32) x5)))] [(.ref o7)])) rfl (by rw [hml]; rfl) (Steps.refl _) (argsL := []) (rest := []) (lenOf pd_3 rfl) rfl (by show 2 * 0 + _ ≤ _; exact Nat.le_of_eq rfl) (hb hby at_361) (fun _ _ => ⟨rfl, e12, (by decide : 3 + 0 ≤ _), (by decide : 27 + 0 ≤ _)⟩)
  dsimp only [Pt.U, Pt.locs, Pt.cells, Pt.slots] at X13 l13 y13 z13 st13 hQ13
  subst l13 y13 z13
  refine Done.far st13 ?_
  obtain ⟨rfl, N13q, e13⟩ := hQ13
  have N13 := Fr.app N12 N13q
  show Done p e below s _ _ _ (T13.setTop (mkF m 364 #[.val (.int p1), .val (.int p2), .val (.int p3), .val (.int x3), .val (.int x4), .val (.int x5), .val (.ref b6), .val (.ref o7), .val (.int ((((((((((((F4 p3 (0 : Int32) x5) + (F4 p3 (1 : Int32) x5)) + (F4 p3 (2 : Int32) x5)) + (F4 p3 (3 : Int32) x5)) + (F4 p3 (4 : Int32) x5)) + (F4 p3 (5 : Int32) x5)) + (F4 p3 (6 : Int32) x5)) + (F4 p3 (7 : Int32) x5)) + (F4 p3 (8 : Int32) x5)) + (F4 p3 (9 : Int32) x5)) + (F4 p3 (10 : Int32) x5)) + (F4 p3 (11 : Int32) x5)))] [(.int (CN (0 : Int32) (VL p3 nn 12)))]))
  refine Done.step (fun t k => XS.iload X13.here hx rfl (hb hby at_364) rfl k) ?_
  show Done p e below s _ _ _ (T13.setTop (mkF m 366 #[.val (.int p1), .val (.int p2), .val (.int p3), .val (.int x3), .val (.int x4), .val (.int x5), .val (.ref b6), .val (.ref o7), .val (.int ((((((((((((F4 p3 (0 : Int32) x5) + (F4 p3 (1 : Int32) x5)) + (F4 p3 (2 : Int32) x5)) + (F4 p3 (3 : Int32) x5)) + (F4 p3 (4 : Int32) x5)) + (F4 p3 (5 : Int32) x5)) + (F4 p3 (6 : Int32) x5)) + (F4 p3 (7 : Int32) x5)) + (F4 p3 (8 : Int32) x5)) + (F4 p3 (9 : Int32) x5)) + (F4 p3 (10 : Int32) x5)) + (F4 p3 (11 : Int32) x5)))] [(.int ((((((((((((F4 p3 (0 : Int32) x5) + (F4 p3 (1 : Int32) x5)) + (F4 p3 (2 : Int32) x5)) + (F4 p3 (3 : Int32) x5)) + (F4 p3 (4 : Int32) x5)) + (F4 p3 (5 : Int32) x5)) + (F4 p3 (6 : Int32) x5)) + (F4 p3 (7 : Int32) x5)) + (F4 p3 (8 : Int32) x5)) + (F4 p3 (9 : Int32) x5)) + (F4 p3 (10 : Int32) x5)) + (F4 p3 (11 : Int32) x5))), (.int (CN (0 : Int32) (VL p3 nn 12)))]))
  refine Done.step (fun t k => XS.icmpNo X13.here hx rfl (hb hby at_366) rfl (teq (own_cnt p3 x5 nn hn5 hn1 hn2)).2 k) ?_
  show Done p e below s _ _ _ (T13.setTop (mkF m 369 #[.val (.int p1), .val (.int p2), .val (.int p3), .val (.int x3), .val (.int x4), .val (.int x5), .val (.ref b6), .val (.ref o7), .val (.int ((((((((((((F4 p3 (0 : Int32) x5) + (F4 p3 (1 : Int32) x5)) + (F4 p3 (2 : Int32) x5)) + (F4 p3 (3 : Int32) x5)) + (F4 p3 (4 : Int32) x5)) + (F4 p3 (5 : Int32) x5)) + (F4 p3 (6 : Int32) x5)) + (F4 p3 (7 : Int32) x5)) + (F4 p3 (8 : Int32) x5)) + (F4 p3 (9 : Int32) x5)) + (F4 p3 (10 : Int32) x5)) + (F4 p3 (11 : Int32) x5)))] []))
  refine Done.step (fun t k => XS.iconst X13.here hx rfl (hb hby at_369) k) ?_
  show Done p e below s _ _ _ (T13.setTop (mkF m 370 #[.val (.int p1), .val (.int p2), .val (.int p3), .val (.int x3), .val (.int x4), .val (.int x5), .val (.ref b6), .val (.ref o7), .val (.int ((((((((((((F4 p3 (0 : Int32) x5) + (F4 p3 (1 : Int32) x5)) + (F4 p3 (2 : Int32) x5)) + (F4 p3 (3 : Int32) x5)) + (F4 p3 (4 : Int32) x5)) + (F4 p3 (5 : Int32) x5)) + (F4 p3 (6 : Int32) x5)) + (F4 p3 (7 : Int32) x5)) + (F4 p3 (8 : Int32) x5)) + (F4 p3 (9 : Int32) x5)) + (F4 p3 (10 : Int32) x5)) + (F4 p3 (11 : Int32) x5)))] [(.int (1 : Int32))]))
  refine Done.step (fun t k => XS.goto X13.here hx rfl (pc0 := 370) (pc' := 374) rfl (hb hby at_370) (by decide) (by decide) k) ?_
  show Done p e below s _ _ _ (T13.setTop (mkF m 374 #[.val (.int p1), .val (.int p2), .val (.int p3), .val (.int x3), .val (.int x4), .val (.int x5), .val (.ref b6), .val (.ref o7), .val (.int ((((((((((((F4 p3 (0 : Int32) x5) + (F4 p3 (1 : Int32) x5)) + (F4 p3 (2 : Int32) x5)) + (F4 p3 (3 : Int32) x5)) + (F4 p3 (4 : Int32) x5)) + (F4 p3 (5 : Int32) x5)) + (F4 p3 (6 : Int32) x5)) + (F4 p3 (7 : Int32) x5)) + (F4 p3 (8 : Int32) x5)) + (F4 p3 (9 : Int32) x5)) + (F4 p3 (10 : Int32) x5)) + (F4 p3 (11 : Int32) x5)))] [(.int (1 : Int32))]))
  exact Done.narr X13 hx hlk hret (by simp) (hb hby at_374) (by decide) (by decide) ⟨rfl, N13⟩
set_option maxRecDepth 65536 in
set_option maxHeartbeats 40000000 in
theorem blk12 {p : Program} {l : Launch} {e : Env} {s : State} {m : MethodId} {args : Array Value} {below : List Frame} {meth : Method} {c : Code} {T : State} {locs : List Loc} {Z : State} {a0 : Array Value} {h0 : Heap} {n0 : Nat} (p1 p2 p3 x3 x4 x5 : Int32) (b6 : Addr) (nn : Nat)
    (X0 : Stand p l e room_1 s m args below meth c T locs 1 12) (hx : p.tables.exec = Jvm.exec) (hZ : Z.Warmed39 s.vm) (hw : ∀ d ∈ tables_1, d.before a0 Z = true) (hby : c.code = code) (hml : c.maxLocals = 9) (hown : s.vm.findClass "com/example/wardsum/wardsum/model/GridMapFreeCellCountPinLaw" = some m.cls) (hlk : meth.locks = false) (hret : meth.sig.returnType = ret) (hnm : meth.name = "law") (N0 : Fr n0 locs) (Z0 : n0 ≤ h0.size) (e0 : T.heap = h0) (A6 : Ax Z h0 b6 .boolean ((VL p3 nn 12).map Value.int)) (E6 : Exa Z h0 b6 "[Z") (g6 : n0 ≤ b6) (hn5 : x5.toInt = nn) (hn1 : 1 ≤ nn) (hn2 : nn ≤ 12) (hz5 : nn.toInt32 = x5) (hw1 : ¬ x3 < (1 : Int32)) (hh1 : ¬ x4 < (1 : Int32)) (hwh : ((x3).toInt64 * (x4).toInt64) = (x5).toInt64) :
    Done p e below s (fun v h L => v = some (.int 1) ∧ Fr n0 L) room_1.cells room_1.slots (T.setTop (mkF m 226 #[.val (.int p1), .val (.int p2), .val (.int p3), .val (.int x3), .val (.int x4), .val (.int x5), .val (.ref b6), .unset, .unset] [])) := by
  show Done p e below s _ _ _ (T.setTop (mkF m 226 #[.val (.int p1), .val (.int p2), .val (.int p3), .val (.int x3), .val (.int x4), .val (.int x5), .val (.ref b6), .unset, .unset] []))
  obtain ⟨T1, h1, X1, e1, E1, A1, D1, -, st1⟩ := newO X0 hx hZ hown (hw _ (List.mem_of_getElem? (i := 6) rfl)) (hw _ (List.mem_of_getElem? (i := 7) rfl)) (hw _ (List.mem_of_getElem? (i := 8) rfl)) e0 (g := (mkF m 226 #[.val (.int p1), .val (.int p2), .val (.int p3), .val (.int x3), .val (.int x4), .val (.int x5), .val (.ref b6), .unset, .unset] [])) rfl (hb hby at_226) (by decide) (by decide)
  obtain ⟨b1, gq1⟩ : ∃ z, z = h0.size := ⟨_, rfl⟩
  rw [← gq1] at A1 D1 st1
  have ne2 : b6 ≠ b1 := Nat.ne_of_lt (Nat.lt_of_lt_of_le E6.lt (Nat.le_of_eq gq1.symm))
  have f3 : Exa Z h1 b6 "[Z" := E6.ext E1
  have f4 : Ax Z h1 b6 .boolean ((VL p3 nn 12).map Value.int) := A6.ext E1
  have g_b1 : n0 ≤ b1 := Nat.le_trans Z0 (Nat.le_of_eq gq1.symm)
  have Z1 : n0 ≤ h1.size := Nat.le_trans Z0 E1.1
  have f5 : Fld Z h1 b1 "com/example/wardsum/wardsum/model/GridMap" "width" "I" (.int (0 : Int32)) := D1 (Or.inr (hw _ (List.mem_of_getElem? (i := 16) rfl))) (ty := .int) (by decide)
  have f6 : Fld Z h1 b1 "com/example/wardsum/wardsum/model/GridMap" "height" "I" (.int (0 : Int32)) := D1 (Or.inr (hw _ (List.mem_of_getElem? (i := 18) rfl))) (ty := .int) (by decide)
  have f7 : Fld Z h1 b1 "com/example/wardsum/wardsum/model/GridMap" "free" "[Z" .null := D1 (Or.inr (hw _ (List.mem_of_getElem? (i := 29) rfl))) (ty := (.array .boolean)) (by decide)
  refine Done.step st1 ?_
  show Done p e below s _ _ _ (T1.setTop (mkF m 229 #[.val (.int p1), .val (.int p2), .val (.int p3), .val (.int x3), .val (.int x4), .val (.int x5), .val (.ref b6), .unset, .unset] [(.ref b1)]))
  refine Done.step (fun t k => XS.dup X1.here hx rfl (hb hby at_229) rfl rfl k) ?_
  show Done p e below s _ _ _ (T1.setTop (mkF m 230 #[.val (.int p1), .val (.int p2), .val (.int p3), .val (.int x3), .val (.int x4), .val (.int x5), .val (.ref b6), .unset, .unset] [(.ref b1), (.ref b1)]))
  refine Done.step (fun t k => XS.iloadN X1.here hx rfl (hb hby at_230) rfl k) ?_
  show Done p e below s _ _ _ (T1.setTop (mkF m 231 #[.val (.int p1), .val (.int p2), .val (.int p3), .val (.int x3), .val (.int x4), .val (.int x5), .val (.ref b6), .unset, .unset] [(.int x3), (.ref b1), (.ref b1)]))
  refine Done.step (fun t k => XS.iload X1.here hx rfl (hb hby at_231) rfl k) ?_
  show Done p e below s _ _ _ (T1.setTop (mkF m 233 #[.val (.int p1), .val (.int p2), .val (.int p3), .val (.int x3), .val (.int x4), .val (.int x5), .val (.ref b6), .unset, .unset] [(.int x4), (.int x3), (.ref b1), (.ref b1)]))
  refine Done.step (fun t k => XS.aload X1.here hx rfl (hb hby at_233) rfl rfl k) ?_
  show Done p e below s _ _ _ (T1.setTop (mkF m 235 #[.val (.int p1), .val (.int p2), .val (.int p3), .val (.int x3), .val (.int x4), .val (.int x5), .val (.ref b6), .unset, .unset] [(.ref b6), (.int x4), (.int x3), (.ref b1), (.ref b1)]))
  obtain ⟨v8, _, ⟨T8, L8, k8, n8⟩, -, X8, ⟨Lc8, hQ8, l8, y8, z8⟩, st8⟩ := X1.specialBack hx (y := (⟨"com/example/wardsum/wardsum/model/GridMap", "<init>", "(II[Z)V"⟩ : MethodName)) rfl hown (mvT hZ (hw _ (List.mem_of_getElem? (i := 9) rfl))) (mvT hZ (hw _ (List.mem_of_getElem? (i := 10) rfl))) (mvT hZ (hw _ (List.mem_of_getElem? (i := 11) rfl))) (by decide) (backOf (W := 1) (rm2 l Z a0 hw [] b1 x3 x4 b6 (VL p3 nn 12) x5 h1 n0 Z1 A1 f5 f6 f7 g_b1 f3 f4 (own_fit p3 nn 12) (by rw [VL_len]; omega) (by rw [VL_len]; exact hz5) hw1 hh1 hwh) hZ (hw _ (List.mem_of_getElem? (i := 11) rfl)) (hw _ (List.mem_of_getElem? (i := 8) rfl)) (by decide) (by decide)) (g := (mkF m 235 #[.val (.int p1), .val (.int p2), .val (.int p3), .val (.int x3), .val (.int x4), .val (.int x5), .val (.ref b6), .unset, .unset] [(.ref b6), (.int x4), (.int x3), (.ref b1), (.ref b1)])) rfl (by rw [hml]; rfl) (Steps.refl _) (a := b1) (argsL := [(.int x3), (.int x4), (.ref b6)]) (rest := [(.ref b1)]) (lenOf pd_1 rfl) rfl (by show 2 * 0 + _ ≤ _; exact Nat.le_of_eq rfl) (hb hby at_235) (fun _ _ => ⟨rfl, e1, (by decide : 2 + 1 ≤ _), (by decide : 15 + 12 ≤ _)⟩)
  dsimp only [Pt.U, Pt.locs, Pt.cells, Pt.slots] at X8 l8 y8 z8 st8 hQ8
  subst l8 y8 z8
  refine Done.far st8 ?_
  obtain ⟨rfl, N8q, K8q, x8, d8, y8, z8v, w8⟩ := hQ8
  have N8 := Fr.app N0 N8q
  have ne9 : b6 ≠ d8 := Nat.ne_of_lt (Nat.lt_of_lt_of_le f3.lt w8)
  have ne10 : b1 ≠ d8 := Nat.ne_of_lt (Nat.lt_of_lt_of_le A1.lt w8)
  have f11 : Exa Z T8.heap b6 "[Z" := f3.keep K8q
  have f12 : Ax Z T8.heap b6 .boolean ((VL p3 nn 12).map Value.int) := f4.keep K8q (ninS ne2 nin0)
  have f13 : Exa Z T8.heap b1 "com/example/wardsum/wardsum/model/GridMap" := A1.keep K8q
  have Zk8 : n0 ≤ T8.heap.size := Nat.le_trans Z1 K8q.1
  show Done p e below s _ _ _ (T8.setTop (mkF m 238 #[.val (.int p1), .val (.int p2), .val (.int p3), .val (.int x3), .val (.int x4), .val (.int x5), .val (.ref b6), .unset, .unset] [(.ref b1)]))
  refine Done.step (fun t k => XS.astore X8.here hx rfl (hb hby at_238) rfl rfl (l' := #[.val (.int p1), .val (.int p2), .val (.int p3), .val (.int x3), .val (.int x4), .val (.int x5), .val (.ref b6), .val (.ref b1), .unset]) rfl k) ?_
  show Done p e below s _ _ _ (T8.setTop (mkF m 240 #[.val (.int p1), .val (.int p2), .val (.int p3), .val (.int x3), .val (.int x4), .val (.int x5), .val (.ref b6), .val (.ref b1), .unset] []))
  refine Done.step (fun t k => XS.aload X8.here hx rfl (hb hby at_240) rfl rfl k) ?_
  show Done p e below s _ _ _ (T8.setTop (mkF m 242 #[.val (.int p1), .val (.int p2), .val (.int p3), .val (.int x3), .val (.int x4), .val (.int x5), .val (.ref b6), .val (.ref b1), .unset] [(.ref b6)]))
  refine Done.step (fun t k => XS.iconst X8.here hx rfl (hb hby at_242) k) ?_
  show Done p e below s _ _ _ (T8.setTop (mkF m 243 #[.val (.int p1), .val (.int p2), .val (.int p3), .val (.int x3), .val (.int x4), .val (.int x5), .val (.ref b6), .val (.ref b1), .unset] [(.int (0 : Int32)), (.ref b6)]))
  refine Done.step (fun t k => XS.aload X8.here hx rfl (hb hby at_243) rfl rfl k) ?_
  show Done p e below s _ _ _ (T8.setTop (mkF m 245 #[.val (.int p1), .val (.int p2), .val (.int p3), .val (.int x3), .val (.int x4), .val (.int x5), .val (.ref b6), .val (.ref b1), .unset] [(.ref b6), (.int (0 : Int32)), (.ref b6)]))
  refine Done.step (fun t k => XS.iconst X8.here hx rfl (hb hby at_245) k) ?_
  show Done p e below s _ _ _ (T8.setTop (mkF m 246 #[.val (.int p1), .val (.int p2), .val (.int p3), .val (.int x3), .val (.int x4), .val (.int x5), .val (.ref b6), .val (.ref b1), .unset] [(.int (0 : Int32)), (.ref b6), (.int (0 : Int32)), (.ref b6)]))
  obtain ⟨xz, hxz⟩ : ∃ x, (VL p3 nn 12)[(0 : Int32).toNatClampNeg]? = some x := ⟨_, List.getElem?_eq_getElem (by rw [VL_len]; show 0 < nn; omega)⟩
  refine Done.step (ldZ X8 hx hZ rfl f12 (j := (0 : Int32)) (x := (.int xz)) (by decide) (by rw [List.getElem?_map, hxz]; rfl) (g := (mkF m 246 #[.val (.int p1), .val (.int p2), .val (.int p3), .val (.int x3), .val (.int x4), .val (.int x5), .val (.ref b6), .val (.ref b1), .unset] [(.int (0 : Int32)), (.ref b6), (.int (0 : Int32)), (.ref b6)])) rfl rfl (hb hby at_246)) ?_
  show Done p e below s _ _ _ (T8.setTop (mkF m 247 #[.val (.int p1), .val (.int p2), .val (.int p3), .val (.int x3), .val (.int x4), .val (.int x5), .val (.ref b6), .val (.ref b1), .unset] [(.int xz), (.int (0 : Int32)), (.ref b6)]))
  by_cases c14 : xz = (0 : Int32)
  · refine Done.step (fun t k => XS.ifNo X8.here hx rfl (hb hby at_247) rfl ((if0 _ _).trans (teq c14).2) k) ?_
    show Done p e below s _ _ _ (T8.setTop (mkF m 250 #[.val (.int p1), .val (.int p2), .val (.int p3), .val (.int x3), .val (.int x4), .val (.int x5), .val (.ref b6), .val (.ref b1), .unset] [(.int (0 : Int32)), (.ref b6)]))
    refine Done.step (fun t k => XS.iconst X8.here hx rfl (hb hby at_250) k) ?_
    show Done p e below s _ _ _ (T8.setTop (mkF m 251 #[.val (.int p1), .val (.int p2), .val (.int p3), .val (.int x3), .val (.int x4), .val (.int x5), .val (.ref b6), .val (.ref b1), .unset] [(.int (1 : Int32)), (.int (0 : Int32)), (.ref b6)]))
    refine Done.step (fun t k => XS.goto X8.here hx rfl (pc0 := 251) (pc' := 255) rfl (hb hby at_251) (by decide) (by decide) k) ?_
    show Done p e below s _ _ _ (T8.setTop (mkF m 255 #[.val (.int p1), .val (.int p2), .val (.int p3), .val (.int x3), .val (.int x4), .val (.int x5), .val (.ref b6), .val (.ref b1), .unset] [(.int (1 : Int32)), (.int (0 : Int32)), (.ref b6)]))
    obtain ⟨T15, h15, X15, e15, W15, A15, st15⟩ := stoZ X8 hx hZ rfl f12 (j := (0 : Int32)) (by decide) (i := 0) (by decide) (by rw [List.length_map, VL_len]; omega) (g := (mkF m 255 #[.val (.int p1), .val (.int p2), .val (.int p3), .val (.int x3), .val (.int x4), .val (.int x5), .val (.ref b6), .val (.ref b1), .unset] [(.int (1 : Int32)), (.int (0 : Int32)), (.ref b6)])) rfl rfl (hb hby at_255)
    have f16 : Exa Z h15 b6 "[Z" := f11.wr W15
    have f17 : Ax Z h15 b6 .boolean (((VL p3 nn 12).map Value.int).set 0 (.int (nar .boolean (1 : Int32)))) := A15
    have f18 : Exa Z h15 b1 "com/example/wardsum/wardsum/model/GridMap" := f13.wr W15
    have f19 : Fld Z h15 b1 "com/example/wardsum/wardsum/model/GridMap" "free" "[Z" (.ref d8) := y8.other W15 (Or.inl (Ne.symm ne2))
    have f20 : Ax Z h15 d8 .boolean ((VL p3 nn 12).map Value.int) := z8v.other W15 (Ne.symm ne9)
    have Z15 : n0 ≤ h15.size := Nat.le_trans Zk8 (Keep.of_wr W15).1
    have N15 := Fr.snoc X15 N8 g6
    refine Done.step st15 ?_
    show Done p e below s _ _ _ (T15.setTop (mkF m 256 #[.val (.int p1), .val (.int p2), .val (.int p3), .val (.int x3), .val (.int x4), .val (.int x5), .val (.ref b6), .val (.ref b1), .unset] []))
    exact blk256 p1 p2 p3 x3 x4 x5 b6 b1 d8 nn X15 hx hZ hw hby hml hown hlk hret hnm N15 Z15 e15 f18 f19 f20 hn5 hn1 hn2
  · refine Done.step (fun t k => XS.ifYes X8.here hx rfl (pc0 := 247) (pc' := 254) rfl (hb hby at_247) rfl ((if0 _ _).trans (feq c14).2) (by decide) (by decide) k) ?_
    show Done p e below s _ _ _ (T8.setTop (mkF m 254 #[.val (.int p1), .val (.int p2), .val (.int p3), .val (.int x3), .val (.int x4), .val (.int x5), .val (.ref b6), .val (.ref b1), .unset] [(.int (0 : Int32)), (.ref b6)]))
    refine Done.step (fun t k => XS.iconst X8.here hx rfl (hb hby at_254) k) ?_
    show Done p e below s _ _ _ (T8.setTop (mkF m 255 #[.val (.int p1), .val (.int p2), .val (.int p3), .val (.int x3), .val (.int x4), .val (.int x5), .val (.ref b6), .val (.ref b1), .unset] [(.int (0 : Int32)), (.int (0 : Int32)), (.ref b6)]))
    obtain ⟨T21, h21, X21, e21, W21, A21, st21⟩ := stoZ X8 hx hZ rfl f12 (j := (0 : Int32)) (by decide) (i := 0) (by decide) (by rw [List.length_map, VL_len]; omega) (g := (mkF m 255 #[.val (.int p1), .val (.int p2), .val (.int p3), .val (.int x3), .val (.int x4), .val (.int x5), .val (.ref b6), .val (.ref b1), .unset] [(.int (0 : Int32)), (.int (0 : Int32)), (.ref b6)])) rfl rfl (hb hby at_255)
    have f22 : Exa Z h21 b6 "[Z" := f11.wr W21
    have f23 : Ax Z h21 b6 .boolean (((VL p3 nn 12).map Value.int).set 0 (.int (nar .boolean (0 : Int32)))) := A21
    have f24 : Exa Z h21 b1 "com/example/wardsum/wardsum/model/GridMap" := f13.wr W21
    have f25 : Fld Z h21 b1 "com/example/wardsum/wardsum/model/GridMap" "free" "[Z" (.ref d8) := y8.other W21 (Or.inl (Ne.symm ne2))
    have f26 : Ax Z h21 d8 .boolean ((VL p3 nn 12).map Value.int) := z8v.other W21 (Ne.symm ne9)
    have Z21 : n0 ≤ h21.size := Nat.le_trans Zk8 (Keep.of_wr W21).1
    have N21 := Fr.snoc X21 N8 g6
    refine Done.step st21 ?_
    show Done p e below s _ _ _ (T21.setTop (mkF m 256 #[.val (.int p1), .val (.int p2), .val (.int p3), .val (.int x3), .val (.int x4), .val (.int x5), .val (.ref b6), .val (.ref b1), .unset] []))
    exact blk256 p1 p2 p3 x3 x4 x5 b6 b1 d8 nn X21 hx hZ hw hby hml hown hlk hret hnm N21 Z21 e21 f24 f25 f26 hn5 hn1 hn2
set_option maxRecDepth 65536 in
set_option maxHeartbeats 40000000 in
theorem blk11 {p : Program} {l : Launch} {e : Env} {s : State} {m : MethodId} {args : Array Value} {below : List Frame} {meth : Method} {c : Code} {T : State} {locs : List Loc} {Z : State} {a0 : Array Value} {h0 : Heap} {n0 : Nat} (p1 p2 p3 x3 x4 x5 : Int32) (b6 : Addr) (nn : Nat)
    (X0 : Stand p l e room_1 s m args below meth c T locs 1 12) (hx : p.tables.exec = Jvm.exec) (hZ : Z.Warmed39 s.vm) (hw : ∀ d ∈ tables_1, d.before a0 Z = true) (hby : c.code = code) (hml : c.maxLocals = 9) (hown : s.vm.findClass "com/example/wardsum/wardsum/model/GridMapFreeCellCountPinLaw" = some m.cls) (hlk : meth.locks = false) (hret : meth.sig.returnType = ret) (hnm : meth.name = "law") (N0 : Fr n0 locs) (Z0 : n0 ≤ h0.size) (e0 : T.heap = h0) (A6 : Ax Z h0 b6 .boolean ((VL p3 nn 11).map Value.int)) (E6 : Exa Z h0 b6 "[Z") (g6 : n0 ≤ b6) (hn5 : x5.toInt = nn) (hn1 : 1 ≤ nn) (hn2 : nn ≤ 12) (hz5 : nn.toInt32 = x5) (hw1 : ¬ x3 < (1 : Int32)) (hh1 : ¬ x4 < (1 : Int32)) (hwh : ((x3).toInt64 * (x4).toInt64) = (x5).toInt64) :
    Done p e below s (fun v h L => v = some (.int 1) ∧ Fr n0 L) room_1.cells room_1.slots (T.setTop (mkF m 208 #[.val (.int p1), .val (.int p2), .val (.int p3), .val (.int x3), .val (.int x4), .val (.int x5), .val (.ref b6), .unset, .unset] [])) := by
  show Done p e below s _ _ _ (T.setTop (mkF m 208 #[.val (.int p1), .val (.int p2), .val (.int p3), .val (.int x3), .val (.int x4), .val (.int x5), .val (.ref b6), .unset, .unset] []))
  refine Done.step (fun t k => XS.bipush X0.here hx rfl (hb hby at_208) k) ?_
  show Done p e below s _ _ _ (T.setTop (mkF m 210 #[.val (.int p1), .val (.int p2), .val (.int p3), .val (.int x3), .val (.int x4), .val (.int x5), .val (.ref b6), .unset, .unset] [(.int (11 : Int32))]))
  refine Done.step (fun t k => XS.iload X0.here hx rfl (hb hby at_210) rfl k) ?_
  show Done p e below s _ _ _ (T.setTop (mkF m 212 #[.val (.int p1), .val (.int p2), .val (.int p3), .val (.int x3), .val (.int x4), .val (.int x5), .val (.ref b6), .unset, .unset] [(.int x5), (.int (11 : Int32))]))
  by_cases c1 : (11 : Int32) < x5
  · refine Done.step (fun t k => XS.icmpNo X0.here hx rfl (hb hby at_212) rfl (tlt c1).2.1 k) ?_
    show Done p e below s _ _ _ (T.setTop (mkF m 215 #[.val (.int p1), .val (.int p2), .val (.int p3), .val (.int x3), .val (.int x4), .val (.int x5), .val (.ref b6), .unset, .unset] []))
    refine Done.step (fun t k => XS.aload X0.here hx rfl (hb hby at_215) rfl rfl k) ?_
    show Done p e below s _ _ _ (T.setTop (mkF m 217 #[.val (.int p1), .val (.int p2), .val (.int p3), .val (.int x3), .val (.int x4), .val (.int x5), .val (.ref b6), .unset, .unset] [(.ref b6)]))
    refine Done.step (fun t k => XS.bipush X0.here hx rfl (hb hby at_217) k) ?_
    show Done p e below s _ _ _ (T.setTop (mkF m 219 #[.val (.int p1), .val (.int p2), .val (.int p3), .val (.int x3), .val (.int x4), .val (.int x5), .val (.ref b6), .unset, .unset] [(.int (11 : Int32)), (.ref b6)]))
    refine Done.step (fun t k => XS.iloadN X0.here hx rfl (hb hby at_219) rfl k) ?_
    show Done p e below s _ _ _ (T.setTop (mkF m 220 #[.val (.int p1), .val (.int p2), .val (.int p3), .val (.int x3), .val (.int x4), .val (.int x5), .val (.ref b6), .unset, .unset] [(.int p3), (.int (11 : Int32)), (.ref b6)]))
    refine Done.step (fun t k => XS.bipush X0.here hx rfl (hb hby at_220) k) ?_
    show Done p e below s _ _ _ (T.setTop (mkF m 222 #[.val (.int p1), .val (.int p2), .val (.int p3), .val (.int x3), .val (.int x4), .val (.int x5), .val (.ref b6), .unset, .unset] [(.int (11 : Int32)), (.int p3), (.int (11 : Int32)), (.ref b6)]))
    obtain ⟨v2, _, ⟨T2, L2, k2, n2⟩, -, X2, ⟨Lc2, hQ2, l2, y2, z2⟩, st2⟩ := Jvm.LawKit.callS X0 hx (y := (⟨"com/example/wardsum/wardsum/model/GridMapFreeCellCountPinLaw", "bit", "(II)Z"⟩ : MethodName)) hown (mvT hZ (hw _ (List.mem_of_getElem? (i := 2) rfl))) (mvT hZ (hw _ (List.mem_of_getElem? (i := 3) rfl))) (mvT hZ (hw _ (List.mem_of_getElem? (i := 4) rfl))) (mvT hZ (hw _ (List.mem_of_getElem? (i := 5) rfl))) (by decide) (backOf (W := 2) (rm1 l Z a0 hw [] p3 (11 : Int32) h0 n0 Z0 ) hZ (hw _ (List.mem_of_getElem? (i := 5) rfl)) (hw _ (List.mem_of_getElem? (i := 4) rfl)) (by decide) (by decide)) (g := (mkF m 222 #[.val (.int p1), .val (.int p2), .val (.int p3), .val (.int x3), .val (.int x4), .val (.int x5), .val (.ref b6), .unset, .unset] [(.int (11 : Int32)), (.int p3), (.int (11 : Int32)), (.ref b6)])) rfl (by rw [hml]; rfl) (argsL := [(.int p3), (.int (11 : Int32))]) (rest := [(.int (11 : Int32)), (.ref b6)]) (lenOf pd_0 rfl) rfl (by show 2 * 0 + _ ≤ _; exact Nat.le_of_eq rfl) (hb hby at_222) (fun _ _ => ⟨rfl, e0, (by decide : 1 + 0 ≤ _), (by decide : 12 + 0 ≤ _)⟩)
    dsimp only [Pt.U, Pt.locs, Pt.cells, Pt.slots] at X2 l2 y2 z2 st2 hQ2
    subst l2 y2 z2
    refine Done.step st2 ?_
    obtain ⟨rfl, N2q, e2⟩ := hQ2
    have N2 := Fr.app N0 N2q
    show Done p e below s _ _ _ (T2.setTop (mkF m 225 #[.val (.int p1), .val (.int p2), .val (.int p3), .val (.int x3), .val (.int x4), .val (.int x5), .val (.ref b6), .unset, .unset] [(.int (F1 p3 (11 : Int32))), (.int (11 : Int32)), (.ref b6)]))
    have hlt : 11 < nn := by have := Int32.lt_iff_toInt_lt.mp c1; rw [hn5] at this; have e : (11 : Int32).toInt = 11 := rfl; omega
    obtain ⟨T3, h3, X3, e3, W3, A3, st3⟩ := stoZ X2 hx hZ e2 A6 (j := (11 : Int32)) (by decide) (i := 11) (by decide) (by rw [List.length_map, VL_len]; exact hlt) (g := (mkF m 225 #[.val (.int p1), .val (.int p2), .val (.int p3), .val (.int x3), .val (.int x4), .val (.int x5), .val (.ref b6), .unset, .unset] [(.int (F1 p3 (11 : Int32))), (.int (11 : Int32)), (.ref b6)])) rfl rfl (hb hby at_225)
    have f4 : Exa Z h3 b6 "[Z" := E6.wr W3
    have f5 : Ax Z h3 b6 .boolean ((VL p3 nn 12).map Value.int) := (VL_set p3 nn 11 _ rfl hlt ▸ A3)
    have Z3 : n0 ≤ h3.size := Nat.le_trans Z0 (Keep.of_wr W3).1
    have N3 := Fr.snoc X3 N2 g6
    refine Done.step st3 ?_
    show Done p e below s _ _ _ (T3.setTop (mkF m 226 #[.val (.int p1), .val (.int p2), .val (.int p3), .val (.int x3), .val (.int x4), .val (.int x5), .val (.ref b6), .unset, .unset] []))
    exact blk12 p1 p2 p3 x3 x4 x5 b6 nn X3 hx hZ hw hby hml hown hlk hret hnm N3 Z3 e3 f5 f4 g6 hn5 hn1 hn2 hz5 hw1 hh1 hwh
  · refine Done.step (fun t k => XS.icmpYes X0.here hx rfl (pc0 := 212) (pc' := 226) rfl (hb hby at_212) rfl (flt c1).2.1 (by decide) (by decide) k) ?_
    show Done p e below s _ _ _ (T.setTop (mkF m 226 #[.val (.int p1), .val (.int p2), .val (.int p3), .val (.int x3), .val (.int x4), .val (.int x5), .val (.ref b6), .unset, .unset] []))
    have hge : nn ≤ 11 := by have := Int.not_lt.mp (fun q => c1 (Int32.lt_iff_toInt_lt.mpr q)); rw [hn5] at this; have e : (11 : Int32).toInt = 11 := rfl; omega
    exact blk12 p1 p2 p3 x3 x4 x5 b6 nn X0 hx hZ hw hby hml hown hlk hret hnm N0 Z0 e0 (VL_skip p3 nn 11 hge ▸ A6) E6 g6 hn5 hn1 hn2 hz5 hw1 hh1 hwh
set_option maxRecDepth 65536 in
set_option maxHeartbeats 40000000 in
theorem blk10 {p : Program} {l : Launch} {e : Env} {s : State} {m : MethodId} {args : Array Value} {below : List Frame} {meth : Method} {c : Code} {T : State} {locs : List Loc} {Z : State} {a0 : Array Value} {h0 : Heap} {n0 : Nat} (p1 p2 p3 x3 x4 x5 : Int32) (b6 : Addr) (nn : Nat)
    (X0 : Stand p l e room_1 s m args below meth c T locs 1 12) (hx : p.tables.exec = Jvm.exec) (hZ : Z.Warmed39 s.vm) (hw : ∀ d ∈ tables_1, d.before a0 Z = true) (hby : c.code = code) (hml : c.maxLocals = 9) (hown : s.vm.findClass "com/example/wardsum/wardsum/model/GridMapFreeCellCountPinLaw" = some m.cls) (hlk : meth.locks = false) (hret : meth.sig.returnType = ret) (hnm : meth.name = "law") (N0 : Fr n0 locs) (Z0 : n0 ≤ h0.size) (e0 : T.heap = h0) (A6 : Ax Z h0 b6 .boolean ((VL p3 nn 10).map Value.int)) (E6 : Exa Z h0 b6 "[Z") (g6 : n0 ≤ b6) (hn5 : x5.toInt = nn) (hn1 : 1 ≤ nn) (hn2 : nn ≤ 12) (hz5 : nn.toInt32 = x5) (hw1 : ¬ x3 < (1 : Int32)) (hh1 : ¬ x4 < (1 : Int32)) (hwh : ((x3).toInt64 * (x4).toInt64) = (x5).toInt64) :
    Done p e below s (fun v h L => v = some (.int 1) ∧ Fr n0 L) room_1.cells room_1.slots (T.setTop (mkF m 190 #[.val (.int p1), .val (.int p2), .val (.int p3), .val (.int x3), .val (.int x4), .val (.int x5), .val (.ref b6), .unset, .unset] [])) := by
  show Done p e below s _ _ _ (T.setTop (mkF m 190 #[.val (.int p1), .val (.int p2), .val (.int p3), .val (.int x3), .val (.int x4), .val (.int x5), .val (.ref b6), .unset, .unset] []))
  refine Done.step (fun t k => XS.bipush X0.here hx rfl (hb hby at_190) k) ?_
  show Done p e below s _ _ _ (T.setTop (mkF m 192 #[.val (.int p1), .val (.int p2), .val (.int p3), .val (.int x3), .val (.int x4), .val (.int x5), .val (.ref b6), .unset, .unset] [(.int (10 : Int32))]))
  refine Done.step (fun t k => XS.iload X0.here hx rfl (hb hby at_192) rfl k) ?_
  show Done p e below s _ _ _ (T.setTop (mkF m 194 #[.val (.int p1), .val (.int p2), .val (.int p3), .val (.int x3), .val (.int x4), .val (.int x5), .val (.ref b6), .unset, .unset] [(.int x5), (.int (10 : Int32))]))
  by_cases c1 : (10 : Int32) < x5
  · refine Done.step (fun t k => XS.icmpNo X0.here hx rfl (hb hby at_194) rfl (tlt c1).2.1 k) ?_
    show Done p e below s _ _ _ (T.setTop (mkF m 197 #[.val (.int p1), .val (.int p2), .val (.int p3), .val (.int x3), .val (.int x4), .val (.int x5), .val (.ref b6), .unset, .unset] []))
    refine Done.step (fun t k => XS.aload X0.here hx rfl (hb hby at_197) rfl rfl k) ?_
    show Done p e below s _ _ _ (T.setTop (mkF m 199 #[.val (.int p1), .val (.int p2), .val (.int p3), .val (.int x3), .val (.int x4), .val (.int x5), .val (.ref b6), .unset, .unset] [(.ref b6)]))
    refine Done.step (fun t k => XS.bipush X0.here hx rfl (hb hby at_199) k) ?_
    show Done p e below s _ _ _ (T.setTop (mkF m 201 #[.val (.int p1), .val (.int p2), .val (.int p3), .val (.int x3), .val (.int x4), .val (.int x5), .val (.ref b6), .unset, .unset] [(.int (10 : Int32)), (.ref b6)]))
    refine Done.step (fun t k => XS.iloadN X0.here hx rfl (hb hby at_201) rfl k) ?_
    show Done p e below s _ _ _ (T.setTop (mkF m 202 #[.val (.int p1), .val (.int p2), .val (.int p3), .val (.int x3), .val (.int x4), .val (.int x5), .val (.ref b6), .unset, .unset] [(.int p3), (.int (10 : Int32)), (.ref b6)]))
    refine Done.step (fun t k => XS.bipush X0.here hx rfl (hb hby at_202) k) ?_
    show Done p e below s _ _ _ (T.setTop (mkF m 204 #[.val (.int p1), .val (.int p2), .val (.int p3), .val (.int x3), .val (.int x4), .val (.int x5), .val (.ref b6), .unset, .unset] [(.int (10 : Int32)), (.int p3), (.int (10 : Int32)), (.ref b6)]))
    obtain ⟨v2, _, ⟨T2, L2, k2, n2⟩, -, X2, ⟨Lc2, hQ2, l2, y2, z2⟩, st2⟩ := Jvm.LawKit.callS X0 hx (y := (⟨"com/example/wardsum/wardsum/model/GridMapFreeCellCountPinLaw", "bit", "(II)Z"⟩ : MethodName)) hown (mvT hZ (hw _ (List.mem_of_getElem? (i := 2) rfl))) (mvT hZ (hw _ (List.mem_of_getElem? (i := 3) rfl))) (mvT hZ (hw _ (List.mem_of_getElem? (i := 4) rfl))) (mvT hZ (hw _ (List.mem_of_getElem? (i := 5) rfl))) (by decide) (backOf (W := 2) (rm1 l Z a0 hw [] p3 (10 : Int32) h0 n0 Z0 ) hZ (hw _ (List.mem_of_getElem? (i := 5) rfl)) (hw _ (List.mem_of_getElem? (i := 4) rfl)) (by decide) (by decide)) (g := (mkF m 204 #[.val (.int p1), .val (.int p2), .val (.int p3), .val (.int x3), .val (.int x4), .val (.int x5), .val (.ref b6), .unset, .unset] [(.int (10 : Int32)), (.int p3), (.int (10 : Int32)), (.ref b6)])) rfl (by rw [hml]; rfl) (argsL := [(.int p3), (.int (10 : Int32))]) (rest := [(.int (10 : Int32)), (.ref b6)]) (lenOf pd_0 rfl) rfl (by show 2 * 0 + _ ≤ _; exact Nat.le_of_eq rfl) (hb hby at_204) (fun _ _ => ⟨rfl, e0, (by decide : 1 + 0 ≤ _), (by decide : 12 + 0 ≤ _)⟩)
    dsimp only [Pt.U, Pt.locs, Pt.cells, Pt.slots] at X2 l2 y2 z2 st2 hQ2
    subst l2 y2 z2
    refine Done.step st2 ?_
    obtain ⟨rfl, N2q, e2⟩ := hQ2
    have N2 := Fr.app N0 N2q
    show Done p e below s _ _ _ (T2.setTop (mkF m 207 #[.val (.int p1), .val (.int p2), .val (.int p3), .val (.int x3), .val (.int x4), .val (.int x5), .val (.ref b6), .unset, .unset] [(.int (F1 p3 (10 : Int32))), (.int (10 : Int32)), (.ref b6)]))
    have hlt : 10 < nn := by have := Int32.lt_iff_toInt_lt.mp c1; rw [hn5] at this; have e : (10 : Int32).toInt = 10 := rfl; omega
    obtain ⟨T3, h3, X3, e3, W3, A3, st3⟩ := stoZ X2 hx hZ e2 A6 (j := (10 : Int32)) (by decide) (i := 10) (by decide) (by rw [List.length_map, VL_len]; exact hlt) (g := (mkF m 207 #[.val (.int p1), .val (.int p2), .val (.int p3), .val (.int x3), .val (.int x4), .val (.int x5), .val (.ref b6), .unset, .unset] [(.int (F1 p3 (10 : Int32))), (.int (10 : Int32)), (.ref b6)])) rfl rfl (hb hby at_207)
    have f4 : Exa Z h3 b6 "[Z" := E6.wr W3
    have f5 : Ax Z h3 b6 .boolean ((VL p3 nn 11).map Value.int) := (VL_set p3 nn 10 _ rfl hlt ▸ A3)
    have Z3 : n0 ≤ h3.size := Nat.le_trans Z0 (Keep.of_wr W3).1
    have N3 := Fr.snoc X3 N2 g6
    refine Done.step st3 ?_
    show Done p e below s _ _ _ (T3.setTop (mkF m 208 #[.val (.int p1), .val (.int p2), .val (.int p3), .val (.int x3), .val (.int x4), .val (.int x5), .val (.ref b6), .unset, .unset] []))
    exact blk11 p1 p2 p3 x3 x4 x5 b6 nn X3 hx hZ hw hby hml hown hlk hret hnm N3 Z3 e3 f5 f4 g6 hn5 hn1 hn2 hz5 hw1 hh1 hwh
  · refine Done.step (fun t k => XS.icmpYes X0.here hx rfl (pc0 := 194) (pc' := 208) rfl (hb hby at_194) rfl (flt c1).2.1 (by decide) (by decide) k) ?_
    show Done p e below s _ _ _ (T.setTop (mkF m 208 #[.val (.int p1), .val (.int p2), .val (.int p3), .val (.int x3), .val (.int x4), .val (.int x5), .val (.ref b6), .unset, .unset] []))
    have hge : nn ≤ 10 := by have := Int.not_lt.mp (fun q => c1 (Int32.lt_iff_toInt_lt.mpr q)); rw [hn5] at this; have e : (10 : Int32).toInt = 10 := rfl; omega
    exact blk11 p1 p2 p3 x3 x4 x5 b6 nn X0 hx hZ hw hby hml hown hlk hret hnm N0 Z0 e0 (VL_skip p3 nn 10 hge ▸ A6) E6 g6 hn5 hn1 hn2 hz5 hw1 hh1 hwh
set_option maxRecDepth 65536 in
set_option maxHeartbeats 40000000 in
theorem blk9 {p : Program} {l : Launch} {e : Env} {s : State} {m : MethodId} {args : Array Value} {below : List Frame} {meth : Method} {c : Code} {T : State} {locs : List Loc} {Z : State} {a0 : Array Value} {h0 : Heap} {n0 : Nat} (p1 p2 p3 x3 x4 x5 : Int32) (b6 : Addr) (nn : Nat)
    (X0 : Stand p l e room_1 s m args below meth c T locs 1 12) (hx : p.tables.exec = Jvm.exec) (hZ : Z.Warmed39 s.vm) (hw : ∀ d ∈ tables_1, d.before a0 Z = true) (hby : c.code = code) (hml : c.maxLocals = 9) (hown : s.vm.findClass "com/example/wardsum/wardsum/model/GridMapFreeCellCountPinLaw" = some m.cls) (hlk : meth.locks = false) (hret : meth.sig.returnType = ret) (hnm : meth.name = "law") (N0 : Fr n0 locs) (Z0 : n0 ≤ h0.size) (e0 : T.heap = h0) (A6 : Ax Z h0 b6 .boolean ((VL p3 nn 9).map Value.int)) (E6 : Exa Z h0 b6 "[Z") (g6 : n0 ≤ b6) (hn5 : x5.toInt = nn) (hn1 : 1 ≤ nn) (hn2 : nn ≤ 12) (hz5 : nn.toInt32 = x5) (hw1 : ¬ x3 < (1 : Int32)) (hh1 : ¬ x4 < (1 : Int32)) (hwh : ((x3).toInt64 * (x4).toInt64) = (x5).toInt64) :
    Done p e below s (fun v h L => v = some (.int 1) ∧ Fr n0 L) room_1.cells room_1.slots (T.setTop (mkF m 172 #[.val (.int p1), .val (.int p2), .val (.int p3), .val (.int x3), .val (.int x4), .val (.int x5), .val (.ref b6), .unset, .unset] [])) := by
  show Done p e below s _ _ _ (T.setTop (mkF m 172 #[.val (.int p1), .val (.int p2), .val (.int p3), .val (.int x3), .val (.int x4), .val (.int x5), .val (.ref b6), .unset, .unset] []))
  refine Done.step (fun t k => XS.bipush X0.here hx rfl (hb hby at_172) k) ?_
  show Done p e below s _ _ _ (T.setTop (mkF m 174 #[.val (.int p1), .val (.int p2), .val (.int p3), .val (.int x3), .val (.int x4), .val (.int x5), .val (.ref b6), .unset, .unset] [(.int (9 : Int32))]))
  refine Done.step (fun t k => XS.iload X0.here hx rfl (hb hby at_174) rfl k) ?_
  show Done p e below s _ _ _ (T.setTop (mkF m 176 #[.val (.int p1), .val (.int p2), .val (.int p3), .val (.int x3), .val (.int x4), .val (.int x5), .val (.ref b6), .unset, .unset] [(.int x5), (.int (9 : Int32))]))
  by_cases c1 : (9 : Int32) < x5
  · refine Done.step (fun t k => XS.icmpNo X0.here hx rfl (hb hby at_176) rfl (tlt c1).2.1 k) ?_
    show Done p e below s _ _ _ (T.setTop (mkF m 179 #[.val (.int p1), .val (.int p2), .val (.int p3), .val (.int x3), .val (.int x4), .val (.int x5), .val (.ref b6), .unset, .unset] []))
    refine Done.step (fun t k => XS.aload X0.here hx rfl (hb hby at_179) rfl rfl k) ?_
    show Done p e below s _ _ _ (T.setTop (mkF m 181 #[.val (.int p1), .val (.int p2), .val (.int p3), .val (.int x3), .val (.int x4), .val (.int x5), .val (.ref b6), .unset, .unset] [(.ref b6)]))
    refine Done.step (fun t k => XS.bipush X0.here hx rfl (hb hby at_181) k) ?_
    show Done p e below s _ _ _ (T.setTop (mkF m 183 #[.val (.int p1), .val (.int p2), .val (.int p3), .val (.int x3), .val (.int x4), .val (.int x5), .val (.ref b6), .unset, .unset] [(.int (9 : Int32)), (.ref b6)]))
    refine Done.step (fun t k => XS.iloadN X0.here hx rfl (hb hby at_183) rfl k) ?_
    show Done p e below s _ _ _ (T.setTop (mkF m 184 #[.val (.int p1), .val (.int p2), .val (.int p3), .val (.int x3), .val (.int x4), .val (.int x5), .val (.ref b6), .unset, .unset] [(.int p3), (.int (9 : Int32)), (.ref b6)]))
    refine Done.step (fun t k => XS.bipush X0.here hx rfl (hb hby at_184) k) ?_
    show Done p e below s _ _ _ (T.setTop (mkF m 186 #[.val (.int p1), .val (.int p2), .val (.int p3), .val (.int x3), .val (.int x4), .val (.int x5), .val (.ref b6), .unset, .unset] [(.int (9 : Int32)), (.int p3), (.int (9 : Int32)), (.ref b6)]))
    obtain ⟨v2, _, ⟨T2, L2, k2, n2⟩, -, X2, ⟨Lc2, hQ2, l2, y2, z2⟩, st2⟩ := Jvm.LawKit.callS X0 hx (y := (⟨"com/example/wardsum/wardsum/model/GridMapFreeCellCountPinLaw", "bit", "(II)Z"⟩ : MethodName)) hown (mvT hZ (hw _ (List.mem_of_getElem? (i := 2) rfl))) (mvT hZ (hw _ (List.mem_of_getElem? (i := 3) rfl))) (mvT hZ (hw _ (List.mem_of_getElem? (i := 4) rfl))) (mvT hZ (hw _ (List.mem_of_getElem? (i := 5) rfl))) (by decide) (backOf (W := 2) (rm1 l Z a0 hw [] p3 (9 : Int32) h0 n0 Z0 ) hZ (hw _ (List.mem_of_getElem? (i := 5) rfl)) (hw _ (List.mem_of_getElem? (i := 4) rfl)) (by decide) (by decide)) (g := (mkF m 186 #[.val (.int p1), .val (.int p2), .val (.int p3), .val (.int x3), .val (.int x4), .val (.int x5), .val (.ref b6), .unset, .unset] [(.int (9 : Int32)), (.int p3), (.int (9 : Int32)), (.ref b6)])) rfl (by rw [hml]; rfl) (argsL := [(.int p3), (.int (9 : Int32))]) (rest := [(.int (9 : Int32)), (.ref b6)]) (lenOf pd_0 rfl) rfl (by show 2 * 0 + _ ≤ _; exact Nat.le_of_eq rfl) (hb hby at_186) (fun _ _ => ⟨rfl, e0, (by decide : 1 + 0 ≤ _), (by decide : 12 + 0 ≤ _)⟩)
    dsimp only [Pt.U, Pt.locs, Pt.cells, Pt.slots] at X2 l2 y2 z2 st2 hQ2
    subst l2 y2 z2
    refine Done.step st2 ?_
    obtain ⟨rfl, N2q, e2⟩ := hQ2
    have N2 := Fr.app N0 N2q
    show Done p e below s _ _ _ (T2.setTop (mkF m 189 #[.val (.int p1), .val (.int p2), .val (.int p3), .val (.int x3), .val (.int x4), .val (.int x5), .val (.ref b6), .unset, .unset] [(.int (F1 p3 (9 : Int32))), (.int (9 : Int32)), (.ref b6)]))
    have hlt : 9 < nn := by have := Int32.lt_iff_toInt_lt.mp c1; rw [hn5] at this; have e : (9 : Int32).toInt = 9 := rfl; omega
    obtain ⟨T3, h3, X3, e3, W3, A3, st3⟩ := stoZ X2 hx hZ e2 A6 (j := (9 : Int32)) (by decide) (i := 9) (by decide) (by rw [List.length_map, VL_len]; exact hlt) (g := (mkF m 189 #[.val (.int p1), .val (.int p2), .val (.int p3), .val (.int x3), .val (.int x4), .val (.int x5), .val (.ref b6), .unset, .unset] [(.int (F1 p3 (9 : Int32))), (.int (9 : Int32)), (.ref b6)])) rfl rfl (hb hby at_189)
    have f4 : Exa Z h3 b6 "[Z" := E6.wr W3
    have f5 : Ax Z h3 b6 .boolean ((VL p3 nn 10).map Value.int) := (VL_set p3 nn 9 _ rfl hlt ▸ A3)
    have Z3 : n0 ≤ h3.size := Nat.le_trans Z0 (Keep.of_wr W3).1
    have N3 := Fr.snoc X3 N2 g6
    refine Done.step st3 ?_
    show Done p e below s _ _ _ (T3.setTop (mkF m 190 #[.val (.int p1), .val (.int p2), .val (.int p3), .val (.int x3), .val (.int x4), .val (.int x5), .val (.ref b6), .unset, .unset] []))
    exact blk10 p1 p2 p3 x3 x4 x5 b6 nn X3 hx hZ hw hby hml hown hlk hret hnm N3 Z3 e3 f5 f4 g6 hn5 hn1 hn2 hz5 hw1 hh1 hwh
  · refine Done.step (fun t k => XS.icmpYes X0.here hx rfl (pc0 := 176) (pc' := 190) rfl (hb hby at_176) rfl (flt c1).2.1 (by decide) (by decide) k) ?_
    show Done p e below s _ _ _ (T.setTop (mkF m 190 #[.val (.int p1), .val (.int p2), .val (.int p3), .val (.int x3), .val (.int x4), .val (.int x5), .val (.ref b6), .unset, .unset] []))
    have hge : nn ≤ 9 := by have := Int.not_lt.mp (fun q => c1 (Int32.lt_iff_toInt_lt.mpr q)); rw [hn5] at this; have e : (9 : Int32).toInt = 9 := rfl; omega
    exact blk10 p1 p2 p3 x3 x4 x5 b6 nn X0 hx hZ hw hby hml hown hlk hret hnm N0 Z0 e0 (VL_skip p3 nn 9 hge ▸ A6) E6 g6 hn5 hn1 hn2 hz5 hw1 hh1 hwh
set_option maxRecDepth 65536 in
set_option maxHeartbeats 40000000 in
theorem blk8 {p : Program} {l : Launch} {e : Env} {s : State} {m : MethodId} {args : Array Value} {below : List Frame} {meth : Method} {c : Code} {T : State} {locs : List Loc} {Z : State} {a0 : Array Value} {h0 : Heap} {n0 : Nat} (p1 p2 p3 x3 x4 x5 : Int32) (b6 : Addr) (nn : Nat)
    (X0 : Stand p l e room_1 s m args below meth c T locs 1 12) (hx : p.tables.exec = Jvm.exec) (hZ : Z.Warmed39 s.vm) (hw : ∀ d ∈ tables_1, d.before a0 Z = true) (hby : c.code = code) (hml : c.maxLocals = 9) (hown : s.vm.findClass "com/example/wardsum/wardsum/model/GridMapFreeCellCountPinLaw" = some m.cls) (hlk : meth.locks = false) (hret : meth.sig.returnType = ret) (hnm : meth.name = "law") (N0 : Fr n0 locs) (Z0 : n0 ≤ h0.size) (e0 : T.heap = h0) (A6 : Ax Z h0 b6 .boolean ((VL p3 nn 8).map Value.int)) (E6 : Exa Z h0 b6 "[Z") (g6 : n0 ≤ b6) (hn5 : x5.toInt = nn) (hn1 : 1 ≤ nn) (hn2 : nn ≤ 12) (hz5 : nn.toInt32 = x5) (hw1 : ¬ x3 < (1 : Int32)) (hh1 : ¬ x4 < (1 : Int32)) (hwh : ((x3).toInt64 * (x4).toInt64) = (x5).toInt64) :
    Done p e below s (fun v h L => v = some (.int 1) ∧ Fr n0 L) room_1.cells room_1.slots (T.setTop (mkF m 154 #[.val (.int p1), .val (.int p2), .val (.int p3), .val (.int x3), .val (.int x4), .val (.int x5), .val (.ref b6), .unset, .unset] [])) := by
  show Done p e below s _ _ _ (T.setTop (mkF m 154 #[.val (.int p1), .val (.int p2), .val (.int p3), .val (.int x3), .val (.int x4), .val (.int x5), .val (.ref b6), .unset, .unset] []))
  refine Done.step (fun t k => XS.bipush X0.here hx rfl (hb hby at_154) k) ?_
  show Done p e below s _ _ _ (T.setTop (mkF m 156 #[.val (.int p1), .val (.int p2), .val (.int p3), .val (.int x3), .val (.int x4), .val (.int x5), .val (.ref b6), .unset, .unset] [(.int (8 : Int32))]))
  refine Done.step (fun t k => XS.iload X0.here hx rfl (hb hby at_156) rfl k) ?_
  show Done p e below s _ _ _ (T.setTop (mkF m 158 #[.val (.int p1), .val (.int p2), .val (.int p3), .val (.int x3), .val (.int x4), .val (.int x5), .val (.ref b6), .unset, .unset] [(.int x5), (.int (8 : Int32))]))
  by_cases c1 : (8 : Int32) < x5
  · refine Done.step (fun t k => XS.icmpNo X0.here hx rfl (hb hby at_158) rfl (tlt c1).2.1 k) ?_
    show Done p e below s _ _ _ (T.setTop (mkF m 161 #[.val (.int p1), .val (.int p2), .val (.int p3), .val (.int x3), .val (.int x4), .val (.int x5), .val (.ref b6), .unset, .unset] []))
    refine Done.step (fun t k => XS.aload X0.here hx rfl (hb hby at_161) rfl rfl k) ?_
    show Done p e below s _ _ _ (T.setTop (mkF m 163 #[.val (.int p1), .val (.int p2), .val (.int p3), .val (.int x3), .val (.int x4), .val (.int x5), .val (.ref b6), .unset, .unset] [(.ref b6)]))
    refine Done.step (fun t k => XS.bipush X0.here hx rfl (hb hby at_163) k) ?_
    show Done p e below s _ _ _ (T.setTop (mkF m 165 #[.val (.int p1), .val (.int p2), .val (.int p3), .val (.int x3), .val (.int x4), .val (.int x5), .val (.ref b6), .unset, .unset] [(.int (8 : Int32)), (.ref b6)]))
    refine Done.step (fun t k => XS.iloadN X0.here hx rfl (hb hby at_165) rfl k) ?_
    show Done p e below s _ _ _ (T.setTop (mkF m 166 #[.val (.int p1), .val (.int p2), .val (.int p3), .val (.int x3), .val (.int x4), .val (.int x5), .val (.ref b6), .unset, .unset] [(.int p3), (.int (8 : Int32)), (.ref b6)]))
    refine Done.step (fun t k => XS.bipush X0.here hx rfl (hb hby at_166) k) ?_
    show Done p e below s _ _ _ (T.setTop (mkF m 168 #[.val (.int p1), .val (.int p2), .val (.int p3), .val (.int x3), .val (.int x4), .val (.int x5), .val (.ref b6), .unset, .unset] [(.int (8 : Int32)), (.int p3), (.int (8 : Int32)), (.ref b6)]))
    obtain ⟨v2, _, ⟨T2, L2, k2, n2⟩, -, X2, ⟨Lc2, hQ2, l2, y2, z2⟩, st2⟩ := Jvm.LawKit.callS X0 hx (y := (⟨"com/example/wardsum/wardsum/model/GridMapFreeCellCountPinLaw", "bit", "(II)Z"⟩ : MethodName)) hown (mvT hZ (hw _ (List.mem_of_getElem? (i := 2) rfl))) (mvT hZ (hw _ (List.mem_of_getElem? (i := 3) rfl))) (mvT hZ (hw _ (List.mem_of_getElem? (i := 4) rfl))) (mvT hZ (hw _ (List.mem_of_getElem? (i := 5) rfl))) (by decide) (backOf (W := 2) (rm1 l Z a0 hw [] p3 (8 : Int32) h0 n0 Z0 ) hZ (hw _ (List.mem_of_getElem? (i := 5) rfl)) (hw _ (List.mem_of_getElem? (i := 4) rfl)) (by decide) (by decide)) (g := (mkF m 168 #[.val (.int p1), .val (.int p2), .val (.int p3), .val (.int x3), .val (.int x4), .val (.int x5), .val (.ref b6), .unset, .unset] [(.int (8 : Int32)), (.int p3), (.int (8 : Int32)), (.ref b6)])) rfl (by rw [hml]; rfl) (argsL := [(.int p3), (.int (8 : Int32))]) (rest := [(.int (8 : Int32)), (.ref b6)]) (lenOf pd_0 rfl) rfl (by show 2 * 0 + _ ≤ _; exact Nat.le_of_eq rfl) (hb hby at_168) (fun _ _ => ⟨rfl, e0, (by decide : 1 + 0 ≤ _), (by decide : 12 + 0 ≤ _)⟩)
    dsimp only [Pt.U, Pt.locs, Pt.cells, Pt.slots] at X2 l2 y2 z2 st2 hQ2
    subst l2 y2 z2
    refine Done.step st2 ?_
    obtain ⟨rfl, N2q, e2⟩ := hQ2
    have N2 := Fr.app N0 N2q
    show Done p e below s _ _ _ (T2.setTop (mkF m 171 #[.val (.int p1), .val (.int p2), .val (.int p3), .val (.int x3), .val (.int x4), .val (.int x5), .val (.ref b6), .unset, .unset] [(.int (F1 p3 (8 : Int32))), (.int (8 : Int32)), (.ref b6)]))
    have hlt : 8 < nn := by have := Int32.lt_iff_toInt_lt.mp c1; rw [hn5] at this; have e : (8 : Int32).toInt = 8 := rfl; omega
    obtain ⟨T3, h3, X3, e3, W3, A3, st3⟩ := stoZ X2 hx hZ e2 A6 (j := (8 : Int32)) (by decide) (i := 8) (by decide) (by rw [List.length_map, VL_len]; exact hlt) (g := (mkF m 171 #[.val (.int p1), .val (.int p2), .val (.int p3), .val (.int x3), .val (.int x4), .val (.int x5), .val (.ref b6), .unset, .unset] [(.int (F1 p3 (8 : Int32))), (.int (8 : Int32)), (.ref b6)])) rfl rfl (hb hby at_171)
    have f4 : Exa Z h3 b6 "[Z" := E6.wr W3
    have f5 : Ax Z h3 b6 .boolean ((VL p3 nn 9).map Value.int) := (VL_set p3 nn 8 _ rfl hlt ▸ A3)
    have Z3 : n0 ≤ h3.size := Nat.le_trans Z0 (Keep.of_wr W3).1
    have N3 := Fr.snoc X3 N2 g6
    refine Done.step st3 ?_
    show Done p e below s _ _ _ (T3.setTop (mkF m 172 #[.val (.int p1), .val (.int p2), .val (.int p3), .val (.int x3), .val (.int x4), .val (.int x5), .val (.ref b6), .unset, .unset] []))
    exact blk9 p1 p2 p3 x3 x4 x5 b6 nn X3 hx hZ hw hby hml hown hlk hret hnm N3 Z3 e3 f5 f4 g6 hn5 hn1 hn2 hz5 hw1 hh1 hwh
  · refine Done.step (fun t k => XS.icmpYes X0.here hx rfl (pc0 := 158) (pc' := 172) rfl (hb hby at_158) rfl (flt c1).2.1 (by decide) (by decide) k) ?_
    show Done p e below s _ _ _ (T.setTop (mkF m 172 #[.val (.int p1), .val (.int p2), .val (.int p3), .val (.int x3), .val (.int x4), .val (.int x5), .val (.ref b6), .unset, .unset] []))
    have hge : nn ≤ 8 := by have := Int.not_lt.mp (fun q => c1 (Int32.lt_iff_toInt_lt.mpr q)); rw [hn5] at this; have e : (8 : Int32).toInt = 8 := rfl; omega
    exact blk9 p1 p2 p3 x3 x4 x5 b6 nn X0 hx hZ hw hby hml hown hlk hret hnm N0 Z0 e0 (VL_skip p3 nn 8 hge ▸ A6) E6 g6 hn5 hn1 hn2 hz5 hw1 hh1 hwh
set_option maxRecDepth 65536 in
set_option maxHeartbeats 40000000 in
theorem blk7 {p : Program} {l : Launch} {e : Env} {s : State} {m : MethodId} {args : Array Value} {below : List Frame} {meth : Method} {c : Code} {T : State} {locs : List Loc} {Z : State} {a0 : Array Value} {h0 : Heap} {n0 : Nat} (p1 p2 p3 x3 x4 x5 : Int32) (b6 : Addr) (nn : Nat)
    (X0 : Stand p l e room_1 s m args below meth c T locs 1 12) (hx : p.tables.exec = Jvm.exec) (hZ : Z.Warmed39 s.vm) (hw : ∀ d ∈ tables_1, d.before a0 Z = true) (hby : c.code = code) (hml : c.maxLocals = 9) (hown : s.vm.findClass "com/example/wardsum/wardsum/model/GridMapFreeCellCountPinLaw" = some m.cls) (hlk : meth.locks = false) (hret : meth.sig.returnType = ret) (hnm : meth.name = "law") (N0 : Fr n0 locs) (Z0 : n0 ≤ h0.size) (e0 : T.heap = h0) (A6 : Ax Z h0 b6 .boolean ((VL p3 nn 7).map Value.int)) (E6 : Exa Z h0 b6 "[Z") (g6 : n0 ≤ b6) (hn5 : x5.toInt = nn) (hn1 : 1 ≤ nn) (hn2 : nn ≤ 12) (hz5 : nn.toInt32 = x5) (hw1 : ¬ x3 < (1 : Int32)) (hh1 : ¬ x4 < (1 : Int32)) (hwh : ((x3).toInt64 * (x4).toInt64) = (x5).toInt64) :
    Done p e below s (fun v h L => v = some (.int 1) ∧ Fr n0 L) room_1.cells room_1.slots (T.setTop (mkF m 136 #[.val (.int p1), .val (.int p2), .val (.int p3), .val (.int x3), .val (.int x4), .val (.int x5), .val (.ref b6), .unset, .unset] [])) := by
  show Done p e below s _ _ _ (T.setTop (mkF m 136 #[.val (.int p1), .val (.int p2), .val (.int p3), .val (.int x3), .val (.int x4), .val (.int x5), .val (.ref b6), .unset, .unset] []))
  refine Done.step (fun t k => XS.bipush X0.here hx rfl (hb hby at_136) k) ?_
  show Done p e below s _ _ _ (T.setTop (mkF m 138 #[.val (.int p1), .val (.int p2), .val (.int p3), .val (.int x3), .val (.int x4), .val (.int x5), .val (.ref b6), .unset, .unset] [(.int (7 : Int32))]))
  refine Done.step (fun t k => XS.iload X0.here hx rfl (hb hby at_138) rfl k) ?_
  show Done p e below s _ _ _ (T.setTop (mkF m 140 #[.val (.int p1), .val (.int p2), .val (.int p3), .val (.int x3), .val (.int x4), .val (.int x5), .val (.ref b6), .unset, .unset] [(.int x5), (.int (7 : Int32))]))
  by_cases c1 : (7 : Int32) < x5
  · refine Done.step (fun t k => XS.icmpNo X0.here hx rfl (hb hby at_140) rfl (tlt c1).2.1 k) ?_
    show Done p e below s _ _ _ (T.setTop (mkF m 143 #[.val (.int p1), .val (.int p2), .val (.int p3), .val (.int x3), .val (.int x4), .val (.int x5), .val (.ref b6), .unset, .unset] []))
    refine Done.step (fun t k => XS.aload X0.here hx rfl (hb hby at_143) rfl rfl k) ?_
    show Done p e below s _ _ _ (T.setTop (mkF m 145 #[.val (.int p1), .val (.int p2), .val (.int p3), .val (.int x3), .val (.int x4), .val (.int x5), .val (.ref b6), .unset, .unset] [(.ref b6)]))
    refine Done.step (fun t k => XS.bipush X0.here hx rfl (hb hby at_145) k) ?_
    show Done p e below s _ _ _ (T.setTop (mkF m 147 #[.val (.int p1), .val (.int p2), .val (.int p3), .val (.int x3), .val (.int x4), .val (.int x5), .val (.ref b6), .unset, .unset] [(.int (7 : Int32)), (.ref b6)]))
    refine Done.step (fun t k => XS.iloadN X0.here hx rfl (hb hby at_147) rfl k) ?_
    show Done p e below s _ _ _ (T.setTop (mkF m 148 #[.val (.int p1), .val (.int p2), .val (.int p3), .val (.int x3), .val (.int x4), .val (.int x5), .val (.ref b6), .unset, .unset] [(.int p3), (.int (7 : Int32)), (.ref b6)]))
    refine Done.step (fun t k => XS.bipush X0.here hx rfl (hb hby at_148) k) ?_
    show Done p e below s _ _ _ (T.setTop (mkF m 150 #[.val (.int p1), .val (.int p2), .val (.int p3), .val (.int x3), .val (.int x4), .val (.int x5), .val (.ref b6), .unset, .unset] [(.int (7 : Int32)), (.int p3), (.int (7 : Int32)), (.ref b6)]))
    obtain ⟨v2, _, ⟨T2, L2, k2, n2⟩, -, X2, ⟨Lc2, hQ2, l2, y2, z2⟩, st2⟩ := Jvm.LawKit.callS X0 hx (y := (⟨"com/example/wardsum/wardsum/model/GridMapFreeCellCountPinLaw", "bit", "(II)Z"⟩ : MethodName)) hown (mvT hZ (hw _ (List.mem_of_getElem? (i := 2) rfl))) (mvT hZ (hw _ (List.mem_of_getElem? (i := 3) rfl))) (mvT hZ (hw _ (List.mem_of_getElem? (i := 4) rfl))) (mvT hZ (hw _ (List.mem_of_getElem? (i := 5) rfl))) (by decide) (backOf (W := 2) (rm1 l Z a0 hw [] p3 (7 : Int32) h0 n0 Z0 ) hZ (hw _ (List.mem_of_getElem? (i := 5) rfl)) (hw _ (List.mem_of_getElem? (i := 4) rfl)) (by decide) (by decide)) (g := (mkF m 150 #[.val (.int p1), .val (.int p2), .val (.int p3), .val (.int x3), .val (.int x4), .val (.int x5), .val (.ref b6), .unset, .unset] [(.int (7 : Int32)), (.int p3), (.int (7 : Int32)), (.ref b6)])) rfl (by rw [hml]; rfl) (argsL := [(.int p3), (.int (7 : Int32))]) (rest := [(.int (7 : Int32)), (.ref b6)]) (lenOf pd_0 rfl) rfl (by show 2 * 0 + _ ≤ _; exact Nat.le_of_eq rfl) (hb hby at_150) (fun _ _ => ⟨rfl, e0, (by decide : 1 + 0 ≤ _), (by decide : 12 + 0 ≤ _)⟩)
    dsimp only [Pt.U, Pt.locs, Pt.cells, Pt.slots] at X2 l2 y2 z2 st2 hQ2
    subst l2 y2 z2
    refine Done.step st2 ?_
    obtain ⟨rfl, N2q, e2⟩ := hQ2
    have N2 := Fr.app N0 N2q
    show Done p e below s _ _ _ (T2.setTop (mkF m 153 #[.val (.int p1), .val (.int p2), .val (.int p3), .val (.int x3), .val (.int x4), .val (.int x5), .val (.ref b6), .unset, .unset] [(.int (F1 p3 (7 : Int32))), (.int (7 : Int32)), (.ref b6)]))
    have hlt : 7 < nn := by have := Int32.lt_iff_toInt_lt.mp c1; rw [hn5] at this; have e : (7 : Int32).toInt = 7 := rfl; omega
    obtain ⟨T3, h3, X3, e3, W3, A3, st3⟩ := stoZ X2 hx hZ e2 A6 (j := (7 : Int32)) (by decide) (i := 7) (by decide) (by rw [List.length_map, VL_len]; exact hlt) (g := (mkF m 153 #[.val (.int p1), .val (.int p2), .val (.int p3), .val (.int x3), .val (.int x4), .val (.int x5), .val (.ref b6), .unset, .unset] [(.int (F1 p3 (7 : Int32))), (.int (7 : Int32)), (.ref b6)])) rfl rfl (hb hby at_153)
    have f4 : Exa Z h3 b6 "[Z" := E6.wr W3
    have f5 : Ax Z h3 b6 .boolean ((VL p3 nn 8).map Value.int) := (VL_set p3 nn 7 _ rfl hlt ▸ A3)
    have Z3 : n0 ≤ h3.size := Nat.le_trans Z0 (Keep.of_wr W3).1
    have N3 := Fr.snoc X3 N2 g6
    refine Done.step st3 ?_
    show Done p e below s _ _ _ (T3.setTop (mkF m 154 #[.val (.int p1), .val (.int p2), .val (.int p3), .val (.int x3), .val (.int x4), .val (.int x5), .val (.ref b6), .unset, .unset] []))
    exact blk8 p1 p2 p3 x3 x4 x5 b6 nn X3 hx hZ hw hby hml hown hlk hret hnm N3 Z3 e3 f5 f4 g6 hn5 hn1 hn2 hz5 hw1 hh1 hwh
  · refine Done.step (fun t k => XS.icmpYes X0.here hx rfl (pc0 := 140) (pc' := 154) rfl (hb hby at_140) rfl (flt c1).2.1 (by decide) (by decide) k) ?_
    show Done p e below s _ _ _ (T.setTop (mkF m 154 #[.val (.int p1), .val (.int p2), .val (.int p3), .val (.int x3), .val (.int x4), .val (.int x5), .val (.ref b6), .unset, .unset] []))
    have hge : nn ≤ 7 := by have := Int.not_lt.mp (fun q => c1 (Int32.lt_iff_toInt_lt.mpr q)); rw [hn5] at this; have e : (7 : Int32).toInt = 7 := rfl; omega
    exact blk8 p1 p2 p3 x3 x4 x5 b6 nn X0 hx hZ hw hby hml hown hlk hret hnm N0 Z0 e0 (VL_skip p3 nn 7 hge ▸ A6) E6 g6 hn5 hn1 hn2 hz5 hw1 hh1 hwh
set_option maxRecDepth 65536 in
set_option maxHeartbeats 40000000 in
theorem blk6 {p : Program} {l : Launch} {e : Env} {s : State} {m : MethodId} {args : Array Value} {below : List Frame} {meth : Method} {c : Code} {T : State} {locs : List Loc} {Z : State} {a0 : Array Value} {h0 : Heap} {n0 : Nat} (p1 p2 p3 x3 x4 x5 : Int32) (b6 : Addr) (nn : Nat)
    (X0 : Stand p l e room_1 s m args below meth c T locs 1 12) (hx : p.tables.exec = Jvm.exec) (hZ : Z.Warmed39 s.vm) (hw : ∀ d ∈ tables_1, d.before a0 Z = true) (hby : c.code = code) (hml : c.maxLocals = 9) (hown : s.vm.findClass "com/example/wardsum/wardsum/model/GridMapFreeCellCountPinLaw" = some m.cls) (hlk : meth.locks = false) (hret : meth.sig.returnType = ret) (hnm : meth.name = "law") (N0 : Fr n0 locs) (Z0 : n0 ≤ h0.size) (e0 : T.heap = h0) (A6 : Ax Z h0 b6 .boolean ((VL p3 nn 6).map Value.int)) (E6 : Exa Z h0 b6 "[Z") (g6 : n0 ≤ b6) (hn5 : x5.toInt = nn) (hn1 : 1 ≤ nn) (hn2 : nn ≤ 12) (hz5 : nn.toInt32 = x5) (hw1 : ¬ x3 < (1 : Int32)) (hh1 : ¬ x4 < (1 : Int32)) (hwh : ((x3).toInt64 * (x4).toInt64) = (x5).toInt64) :
    Done p e below s (fun v h L => v = some (.int 1) ∧ Fr n0 L) room_1.cells room_1.slots (T.setTop (mkF m 118 #[.val (.int p1), .val (.int p2), .val (.int p3), .val (.int x3), .val (.int x4), .val (.int x5), .val (.ref b6), .unset, .unset] [])) := by
  show Done p e below s _ _ _ (T.setTop (mkF m 118 #[.val (.int p1), .val (.int p2), .val (.int p3), .val (.int x3), .val (.int x4), .val (.int x5), .val (.ref b6), .unset, .unset] []))
  refine Done.step (fun t k => XS.bipush X0.here hx rfl (hb hby at_118) k) ?_
  show Done p e below s _ _ _ (T.setTop (mkF m 120 #[.val (.int p1), .val (.int p2), .val (.int p3), .val (.int x3), .val (.int x4), .val (.int x5), .val (.ref b6), .unset, .unset] [(.int (6 : Int32))]))
  refine Done.step (fun t k => XS.iload X0.here hx rfl (hb hby at_120) rfl k) ?_
  show Done p e below s _ _ _ (T.setTop (mkF m 122 #[.val (.int p1), .val (.int p2), .val (.int p3), .val (.int x3), .val (.int x4), .val (.int x5), .val (.ref b6), .unset, .unset] [(.int x5), (.int (6 : Int32))]))
  by_cases c1 : (6 : Int32) < x5
  · refine Done.step (fun t k => XS.icmpNo X0.here hx rfl (hb hby at_122) rfl (tlt c1).2.1 k) ?_
    show Done p e below s _ _ _ (T.setTop (mkF m 125 #[.val (.int p1), .val (.int p2), .val (.int p3), .val (.int x3), .val (.int x4), .val (.int x5), .val (.ref b6), .unset, .unset] []))
    refine Done.step (fun t k => XS.aload X0.here hx rfl (hb hby at_125) rfl rfl k) ?_
    show Done p e below s _ _ _ (T.setTop (mkF m 127 #[.val (.int p1), .val (.int p2), .val (.int p3), .val (.int x3), .val (.int x4), .val (.int x5), .val (.ref b6), .unset, .unset] [(.ref b6)]))
    refine Done.step (fun t k => XS.bipush X0.here hx rfl (hb hby at_127) k) ?_
    show Done p e below s _ _ _ (T.setTop (mkF m 129 #[.val (.int p1), .val (.int p2), .val (.int p3), .val (.int x3), .val (.int x4), .val (.int x5), .val (.ref b6), .unset, .unset] [(.int (6 : Int32)), (.ref b6)]))
    refine Done.step (fun t k => XS.iloadN X0.here hx rfl (hb hby at_129) rfl k) ?_
    show Done p e below s _ _ _ (T.setTop (mkF m 130 #[.val (.int p1), .val (.int p2), .val (.int p3), .val (.int x3), .val (.int x4), .val (.int x5), .val (.ref b6), .unset, .unset] [(.int p3), (.int (6 : Int32)), (.ref b6)]))
    refine Done.step (fun t k => XS.bipush X0.here hx rfl (hb hby at_130) k) ?_
    show Done p e below s _ _ _ (T.setTop (mkF m 132 #[.val (.int p1), .val (.int p2), .val (.int p3), .val (.int x3), .val (.int x4), .val (.int x5), .val (.ref b6), .unset, .unset] [(.int (6 : Int32)), (.int p3), (.int (6 : Int32)), (.ref b6)]))
    obtain ⟨v2, _, ⟨T2, L2, k2, n2⟩, -, X2, ⟨Lc2, hQ2, l2, y2, z2⟩, st2⟩ := Jvm.LawKit.callS X0 hx (y := (⟨"com/example/wardsum/wardsum/model/GridMapFreeCellCountPinLaw", "bit", "(II)Z"⟩ : MethodName)) hown (mvT hZ (hw _ (List.mem_of_getElem? (i := 2) rfl))) (mvT hZ (hw _ (List.mem_of_getElem? (i := 3) rfl))) (mvT hZ (hw _ (List.mem_of_getElem? (i := 4) rfl))) (mvT hZ (hw _ (List.mem_of_getElem? (i := 5) rfl))) (by decide) (backOf (W := 2) (rm1 l Z a0 hw [] p3 (6 : Int32) h0 n0 Z0 ) hZ (hw _ (List.mem_of_getElem? (i := 5) rfl)) (hw _ (List.mem_of_getElem? (i := 4) rfl)) (by decide) (by decide)) (g := (mkF m 132 #[.val (.int p1), .val (.int p2), .val (.int p3), .val (.int x3), .val (.int x4), .val (.int x5), .val (.ref b6), .unset, .unset] [(.int (6 : Int32)), (.int p3), (.int (6 : Int32)), (.ref b6)])) rfl (by rw [hml]; rfl) (argsL := [(.int p3), (.int (6 : Int32))]) (rest := [(.int (6 : Int32)), (.ref b6)]) (lenOf pd_0 rfl) rfl (by show 2 * 0 + _ ≤ _; exact Nat.le_of_eq rfl) (hb hby at_132) (fun _ _ => ⟨rfl, e0, (by decide : 1 + 0 ≤ _), (by decide : 12 + 0 ≤ _)⟩)
    dsimp only [Pt.U, Pt.locs, Pt.cells, Pt.slots] at X2 l2 y2 z2 st2 hQ2
    subst l2 y2 z2
    refine Done.step st2 ?_
    obtain ⟨rfl, N2q, e2⟩ := hQ2
    have N2 := Fr.app N0 N2q
    show Done p e below s _ _ _ (T2.setTop (mkF m 135 #[.val (.int p1), .val (.int p2), .val (.int p3), .val (.int x3), .val (.int x4), .val (.int x5), .val (.ref b6), .unset, .unset] [(.int (F1 p3 (6 : Int32))), (.int (6 : Int32)), (.ref b6)]))
    have hlt : 6 < nn := by have := Int32.lt_iff_toInt_lt.mp c1; rw [hn5] at this; have e : (6 : Int32).toInt = 6 := rfl; omega
    obtain ⟨T3, h3, X3, e3, W3, A3, st3⟩ := stoZ X2 hx hZ e2 A6 (j := (6 : Int32)) (by decide) (i := 6) (by decide) (by rw [List.length_map, VL_len]; exact hlt) (g := (mkF m 135 #[.val (.int p1), .val (.int p2), .val (.int p3), .val (.int x3), .val (.int x4), .val (.int x5), .val (.ref b6), .unset, .unset] [(.int (F1 p3 (6 : Int32))), (.int (6 : Int32)), (.ref b6)])) rfl rfl (hb hby at_135)
    have f4 : Exa Z h3 b6 "[Z" := E6.wr W3
    have f5 : Ax Z h3 b6 .boolean ((VL p3 nn 7).map Value.int) := (VL_set p3 nn 6 _ rfl hlt ▸ A3)
    have Z3 : n0 ≤ h3.size := Nat.le_trans Z0 (Keep.of_wr W3).1
    have N3 := Fr.snoc X3 N2 g6
    refine Done.step st3 ?_
    show Done p e below s _ _ _ (T3.setTop (mkF m 136 #[.val (.int p1), .val (.int p2), .val (.int p3), .val (.int x3), .val (.int x4), .val (.int x5), .val (.ref b6), .unset, .unset] []))
    exact blk7 p1 p2 p3 x3 x4 x5 b6 nn X3 hx hZ hw hby hml hown hlk hret hnm N3 Z3 e3 f5 f4 g6 hn5 hn1 hn2 hz5 hw1 hh1 hwh
  · refine Done.step (fun t k => XS.icmpYes X0.here hx rfl (pc0 := 122) (pc' := 136) rfl (hb hby at_122) rfl (flt c1).2.1 (by decide) (by decide) k) ?_
    show Done p e below s _ _ _ (T.setTop (mkF m 136 #[.val (.int p1), .val (.int p2), .val (.int p3), .val (.int x3), .val (.int x4), .val (.int x5), .val (.ref b6), .unset, .unset] []))
    have hge : nn ≤ 6 := by have := Int.not_lt.mp (fun q => c1 (Int32.lt_iff_toInt_lt.mpr q)); rw [hn5] at this; have e : (6 : Int32).toInt = 6 := rfl; omega
    exact blk7 p1 p2 p3 x3 x4 x5 b6 nn X0 hx hZ hw hby hml hown hlk hret hnm N0 Z0 e0 (VL_skip p3 nn 6 hge ▸ A6) E6 g6 hn5 hn1 hn2 hz5 hw1 hh1 hwh
set_option maxRecDepth 65536 in
set_option maxHeartbeats 40000000 in
theorem blk5 {p : Program} {l : Launch} {e : Env} {s : State} {m : MethodId} {args : Array Value} {below : List Frame} {meth : Method} {c : Code} {T : State} {locs : List Loc} {Z : State} {a0 : Array Value} {h0 : Heap} {n0 : Nat} (p1 p2 p3 x3 x4 x5 : Int32) (b6 : Addr) (nn : Nat)
    (X0 : Stand p l e room_1 s m args below meth c T locs 1 12) (hx : p.tables.exec = Jvm.exec) (hZ : Z.Warmed39 s.vm) (hw : ∀ d ∈ tables_1, d.before a0 Z = true) (hby : c.code = code) (hml : c.maxLocals = 9) (hown : s.vm.findClass "com/example/wardsum/wardsum/model/GridMapFreeCellCountPinLaw" = some m.cls) (hlk : meth.locks = false) (hret : meth.sig.returnType = ret) (hnm : meth.name = "law") (N0 : Fr n0 locs) (Z0 : n0 ≤ h0.size) (e0 : T.heap = h0) (A6 : Ax Z h0 b6 .boolean ((VL p3 nn 5).map Value.int)) (E6 : Exa Z h0 b6 "[Z") (g6 : n0 ≤ b6) (hn5 : x5.toInt = nn) (hn1 : 1 ≤ nn) (hn2 : nn ≤ 12) (hz5 : nn.toInt32 = x5) (hw1 : ¬ x3 < (1 : Int32)) (hh1 : ¬ x4 < (1 : Int32)) (hwh : ((x3).toInt64 * (x4).toInt64) = (x5).toInt64) :
    Done p e below s (fun v h L => v = some (.int 1) ∧ Fr n0 L) room_1.cells room_1.slots (T.setTop (mkF m 103 #[.val (.int p1), .val (.int p2), .val (.int p3), .val (.int x3), .val (.int x4), .val (.int x5), .val (.ref b6), .unset, .unset] [])) := by
  show Done p e below s _ _ _ (T.setTop (mkF m 103 #[.val (.int p1), .val (.int p2), .val (.int p3), .val (.int x3), .val (.int x4), .val (.int x5), .val (.ref b6), .unset, .unset] []))
  refine Done.step (fun t k => XS.iconst X0.here hx rfl (hb hby at_103) k) ?_
  show Done p e below s _ _ _ (T.setTop (mkF m 104 #[.val (.int p1), .val (.int p2), .val (.int p3), .val (.int x3), .val (.int x4), .val (.int x5), .val (.ref b6), .unset, .unset] [(.int (5 : Int32))]))
  refine Done.step (fun t k => XS.iload X0.here hx rfl (hb hby at_104) rfl k) ?_
  show Done p e below s _ _ _ (T.setTop (mkF m 106 #[.val (.int p1), .val (.int p2), .val (.int p3), .val (.int x3), .val (.int x4), .val (.int x5), .val (.ref b6), .unset, .unset] [(.int x5), (.int (5 : Int32))]))
  by_cases c1 : (5 : Int32) < x5
  · refine Done.step (fun t k => XS.icmpNo X0.here hx rfl (hb hby at_106) rfl (tlt c1).2.1 k) ?_
    show Done p e below s _ _ _ (T.setTop (mkF m 109 #[.val (.int p1), .val (.int p2), .val (.int p3), .val (.int x3), .val (.int x4), .val (.int x5), .val (.ref b6), .unset, .unset] []))
    refine Done.step (fun t k => XS.aload X0.here hx rfl (hb hby at_109) rfl rfl k) ?_
    show Done p e below s _ _ _ (T.setTop (mkF m 111 #[.val (.int p1), .val (.int p2), .val (.int p3), .val (.int x3), .val (.int x4), .val (.int x5), .val (.ref b6), .unset, .unset] [(.ref b6)]))
    refine Done.step (fun t k => XS.iconst X0.here hx rfl (hb hby at_111) k) ?_
    show Done p e below s _ _ _ (T.setTop (mkF m 112 #[.val (.int p1), .val (.int p2), .val (.int p3), .val (.int x3), .val (.int x4), .val (.int x5), .val (.ref b6), .unset, .unset] [(.int (5 : Int32)), (.ref b6)]))
    refine Done.step (fun t k => XS.iloadN X0.here hx rfl (hb hby at_112) rfl k) ?_
    show Done p e below s _ _ _ (T.setTop (mkF m 113 #[.val (.int p1), .val (.int p2), .val (.int p3), .val (.int x3), .val (.int x4), .val (.int x5), .val (.ref b6), .unset, .unset] [(.int p3), (.int (5 : Int32)), (.ref b6)]))
    refine Done.step (fun t k => XS.iconst X0.here hx rfl (hb hby at_113) k) ?_
    show Done p e below s _ _ _ (T.setTop (mkF m 114 #[.val (.int p1), .val (.int p2), .val (.int p3), .val (.int x3), .val (.int x4), .val (.int x5), .val (.ref b6), .unset, .unset] [(.int (5 : Int32)), (.int p3), (.int (5 : Int32)), (.ref b6)]))
    obtain ⟨v2, _, ⟨T2, L2, k2, n2⟩, -, X2, ⟨Lc2, hQ2, l2, y2, z2⟩, st2⟩ := Jvm.LawKit.callS X0 hx (y := (⟨"com/example/wardsum/wardsum/model/GridMapFreeCellCountPinLaw", "bit", "(II)Z"⟩ : MethodName)) hown (mvT hZ (hw _ (List.mem_of_getElem? (i := 2) rfl))) (mvT hZ (hw _ (List.mem_of_getElem? (i := 3) rfl))) (mvT hZ (hw _ (List.mem_of_getElem? (i := 4) rfl))) (mvT hZ (hw _ (List.mem_of_getElem? (i := 5) rfl))) (by decide) (backOf (W := 2) (rm1 l Z a0 hw [] p3 (5 : Int32) h0 n0 Z0 ) hZ (hw _ (List.mem_of_getElem? (i := 5) rfl)) (hw _ (List.mem_of_getElem? (i := 4) rfl)) (by decide) (by decide)) (g := (mkF m 114 #[.val (.int p1), .val (.int p2), .val (.int p3), .val (.int x3), .val (.int x4), .val (.int x5), .val (.ref b6), .unset, .unset] [(.int (5 : Int32)), (.int p3), (.int (5 : Int32)), (.ref b6)])) rfl (by rw [hml]; rfl) (argsL := [(.int p3), (.int (5 : Int32))]) (rest := [(.int (5 : Int32)), (.ref b6)]) (lenOf pd_0 rfl) rfl (by show 2 * 0 + _ ≤ _; exact Nat.le_of_eq rfl) (hb hby at_114) (fun _ _ => ⟨rfl, e0, (by decide : 1 + 0 ≤ _), (by decide : 12 + 0 ≤ _)⟩)
    dsimp only [Pt.U, Pt.locs, Pt.cells, Pt.slots] at X2 l2 y2 z2 st2 hQ2
    subst l2 y2 z2
    refine Done.step st2 ?_
    obtain ⟨rfl, N2q, e2⟩ := hQ2
    have N2 := Fr.app N0 N2q
    show Done p e below s _ _ _ (T2.setTop (mkF m 117 #[.val (.int p1), .val (.int p2), .val (.int p3), .val (.int x3), .val (.int x4), .val (.int x5), .val (.ref b6), .unset, .unset] [(.int (F1 p3 (5 : Int32))), (.int (5 : Int32)), (.ref b6)]))
    have hlt : 5 < nn := by have := Int32.lt_iff_toInt_lt.mp c1; rw [hn5] at this; have e : (5 : Int32).toInt = 5 := rfl; omega
    obtain ⟨T3, h3, X3, e3, W3, A3, st3⟩ := stoZ X2 hx hZ e2 A6 (j := (5 : Int32)) (by decide) (i := 5) (by decide) (by rw [List.length_map, VL_len]; exact hlt) (g := (mkF m 117 #[.val (.int p1), .val (.int p2), .val (.int p3), .val (.int x3), .val (.int x4), .val (.int x5), .val (.ref b6), .unset, .unset] [(.int (F1 p3 (5 : Int32))), (.int (5 : Int32)), (.ref b6)])) rfl rfl (hb hby at_117)
    have f4 : Exa Z h3 b6 "[Z" := E6.wr W3
    have f5 : Ax Z h3 b6 .boolean ((VL p3 nn 6).map Value.int) := (VL_set p3 nn 5 _ rfl hlt ▸ A3)
    have Z3 : n0 ≤ h3.size := Nat.le_trans Z0 (Keep.of_wr W3).1
    have N3 := Fr.snoc X3 N2 g6
    refine Done.step st3 ?_
    show Done p e below s _ _ _ (T3.setTop (mkF m 118 #[.val (.int p1), .val (.int p2), .val (.int p3), .val (.int x3), .val (.int x4), .val (.int x5), .val (.ref b6), .unset, .unset] []))
    exact blk6 p1 p2 p3 x3 x4 x5 b6 nn X3 hx hZ hw hby hml hown hlk hret hnm N3 Z3 e3 f5 f4 g6 hn5 hn1 hn2 hz5 hw1 hh1 hwh
  · refine Done.step (fun t k => XS.icmpYes X0.here hx rfl (pc0 := 106) (pc' := 118) rfl (hb hby at_106) rfl (flt c1).2.1 (by decide) (by decide) k) ?_
    show Done p e below s _ _ _ (T.setTop (mkF m 118 #[.val (.int p1), .val (.int p2), .val (.int p3), .val (.int x3), .val (.int x4), .val (.int x5), .val (.ref b6), .unset, .unset] []))
    have hge : nn ≤ 5 := by have := Int.not_lt.mp (fun q => c1 (Int32.lt_iff_toInt_lt.mpr q)); rw [hn5] at this; have e : (5 : Int32).toInt = 5 := rfl; omega
    exact blk6 p1 p2 p3 x3 x4 x5 b6 nn X0 hx hZ hw hby hml hown hlk hret hnm N0 Z0 e0 (VL_skip p3 nn 5 hge ▸ A6) E6 g6 hn5 hn1 hn2 hz5 hw1 hh1 hwh
set_option maxRecDepth 65536 in
set_option maxHeartbeats 40000000 in
theorem blk4 {p : Program} {l : Launch} {e : Env} {s : State} {m : MethodId} {args : Array Value} {below : List Frame} {meth : Method} {c : Code} {T : State} {locs : List Loc} {Z : State} {a0 : Array Value} {h0 : Heap} {n0 : Nat} (p1 p2 p3 x3 x4 x5 : Int32) (b6 : Addr) (nn : Nat)
    (X0 : Stand p l e room_1 s m args below meth c T locs 1 12) (hx : p.tables.exec = Jvm.exec) (hZ : Z.Warmed39 s.vm) (hw : ∀ d ∈ tables_1, d.before a0 Z = true) (hby : c.code = code) (hml : c.maxLocals = 9) (hown : s.vm.findClass "com/example/wardsum/wardsum/model/GridMapFreeCellCountPinLaw" = some m.cls) (hlk : meth.locks = false) (hret : meth.sig.returnType = ret) (hnm : meth.name = "law") (N0 : Fr n0 locs) (Z0 : n0 ≤ h0.size) (e0 : T.heap = h0) (A6 : Ax Z h0 b6 .boolean ((VL p3 nn 4).map Value.int)) (E6 : Exa Z h0 b6 "[Z") (g6 : n0 ≤ b6) (hn5 : x5.toInt = nn) (hn1 : 1 ≤ nn) (hn2 : nn ≤ 12) (hz5 : nn.toInt32 = x5) (hw1 : ¬ x3 < (1 : Int32)) (hh1 : ¬ x4 < (1 : Int32)) (hwh : ((x3).toInt64 * (x4).toInt64) = (x5).toInt64) :
    Done p e below s (fun v h L => v = some (.int 1) ∧ Fr n0 L) room_1.cells room_1.slots (T.setTop (mkF m 88 #[.val (.int p1), .val (.int p2), .val (.int p3), .val (.int x3), .val (.int x4), .val (.int x5), .val (.ref b6), .unset, .unset] [])) := by
  show Done p e below s _ _ _ (T.setTop (mkF m 88 #[.val (.int p1), .val (.int p2), .val (.int p3), .val (.int x3), .val (.int x4), .val (.int x5), .val (.ref b6), .unset, .unset] []))
  refine Done.step (fun t k => XS.iconst X0.here hx rfl (hb hby at_88) k) ?_
  show Done p e below s _ _ _ (T.setTop (mkF m 89 #[.val (.int p1), .val (.int p2), .val (.int p3), .val (.int x3), .val (.int x4), .val (.int x5), .val (.ref b6), .unset, .unset] [(.int (4 : Int32))]))
  refine Done.step (fun t k => XS.iload X0.here hx rfl (hb hby at_89) rfl k) ?_
  show Done p e below s _ _ _ (T.setTop (mkF m 91 #[.val (.int p1), .val (.int p2), .val (.int p3), .val (.int x3), .val (.int x4), .val (.int x5), .val (.ref b6), .unset, .unset] [(.int x5), (.int (4 : Int32))]))
  by_cases c1 : (4 : Int32) < x5
  · refine Done.step (fun t k => XS.icmpNo X0.here hx rfl (hb hby at_91) rfl (tlt c1).2.1 k) ?_
    show Done p e below s _ _ _ (T.setTop (mkF m 94 #[.val (.int p1), .val (.int p2), .val (.int p3), .val (.int x3), .val (.int x4), .val (.int x5), .val (.ref b6), .unset, .unset] []))
    refine Done.step (fun t k => XS.aload X0.here hx rfl (hb hby at_94) rfl rfl k) ?_
    show Done p e below s _ _ _ (T.setTop (mkF m 96 #[.val (.int p1), .val (.int p2), .val (.int p3), .val (.int x3), .val (.int x4), .val (.int x5), .val (.ref b6), .unset, .unset] [(.ref b6)]))
    refine Done.step (fun t k => XS.iconst X0.here hx rfl (hb hby at_96) k) ?_
    show Done p e below s _ _ _ (T.setTop (mkF m 97 #[.val (.int p1), .val (.int p2), .val (.int p3), .val (.int x3), .val (.int x4), .val (.int x5), .val (.ref b6), .unset, .unset] [(.int (4 : Int32)), (.ref b6)]))
    refine Done.step (fun t k => XS.iloadN X0.here hx rfl (hb hby at_97) rfl k) ?_
    show Done p e below s _ _ _ (T.setTop (mkF m 98 #[.val (.int p1), .val (.int p2), .val (.int p3), .val (.int x3), .val (.int x4), .val (.int x5), .val (.ref b6), .unset, .unset] [(.int p3), (.int (4 : Int32)), (.ref b6)]))
    refine Done.step (fun t k => XS.iconst X0.here hx rfl (hb hby at_98) k) ?_
    show Done p e below s _ _ _ (T.setTop (mkF m 99 #[.val (.int p1), .val (.int p2), .val (.int p3), .val (.int x3), .val (.int x4), .val (.int x5), .val (.ref b6), .unset, .unset] [(.int (4 : Int32)), (.int p3), (.int (4 : Int32)), (.ref b6)]))
    obtain ⟨v2, _, ⟨T2, L2, k2, n2⟩, -, X2, ⟨Lc2, hQ2, l2, y2, z2⟩, st2⟩ := Jvm.LawKit.callS X0 hx (y := (⟨"com/example/wardsum/wardsum/model/GridMapFreeCellCountPinLaw", "bit", "(II)Z"⟩ : MethodName)) hown (mvT hZ (hw _ (List.mem_of_getElem? (i := 2) rfl))) (mvT hZ (hw _ (List.mem_of_getElem? (i := 3) rfl))) (mvT hZ (hw _ (List.mem_of_getElem? (i := 4) rfl))) (mvT hZ (hw _ (List.mem_of_getElem? (i := 5) rfl))) (by decide) (backOf (W := 2) (rm1 l Z a0 hw [] p3 (4 : Int32) h0 n0 Z0 ) hZ (hw _ (List.mem_of_getElem? (i := 5) rfl)) (hw _ (List.mem_of_getElem? (i := 4) rfl)) (by decide) (by decide)) (g := (mkF m 99 #[.val (.int p1), .val (.int p2), .val (.int p3), .val (.int x3), .val (.int x4), .val (.int x5), .val (.ref b6), .unset, .unset] [(.int (4 : Int32)), (.int p3), (.int (4 : Int32)), (.ref b6)])) rfl (by rw [hml]; rfl) (argsL := [(.int p3), (.int (4 : Int32))]) (rest := [(.int (4 : Int32)), (.ref b6)]) (lenOf pd_0 rfl) rfl (by show 2 * 0 + _ ≤ _; exact Nat.le_of_eq rfl) (hb hby at_99) (fun _ _ => ⟨rfl, e0, (by decide : 1 + 0 ≤ _), (by decide : 12 + 0 ≤ _)⟩)
    dsimp only [Pt.U, Pt.locs, Pt.cells, Pt.slots] at X2 l2 y2 z2 st2 hQ2
    subst l2 y2 z2
    refine Done.step st2 ?_
    obtain ⟨rfl, N2q, e2⟩ := hQ2
    have N2 := Fr.app N0 N2q
    show Done p e below s _ _ _ (T2.setTop (mkF m 102 #[.val (.int p1), .val (.int p2), .val (.int p3), .val (.int x3), .val (.int x4), .val (.int x5), .val (.ref b6), .unset, .unset] [(.int (F1 p3 (4 : Int32))), (.int (4 : Int32)), (.ref b6)]))
    have hlt : 4 < nn := by have := Int32.lt_iff_toInt_lt.mp c1; rw [hn5] at this; have e : (4 : Int32).toInt = 4 := rfl; omega
    obtain ⟨T3, h3, X3, e3, W3, A3, st3⟩ := stoZ X2 hx hZ e2 A6 (j := (4 : Int32)) (by decide) (i := 4) (by decide) (by rw [List.length_map, VL_len]; exact hlt) (g := (mkF m 102 #[.val (.int p1), .val (.int p2), .val (.int p3), .val (.int x3), .val (.int x4), .val (.int x5), .val (.ref b6), .unset, .unset] [(.int (F1 p3 (4 : Int32))), (.int (4 : Int32)), (.ref b6)])) rfl rfl (hb hby at_102)
    have f4 : Exa Z h3 b6 "[Z" := E6.wr W3
    have f5 : Ax Z h3 b6 .boolean ((VL p3 nn 5).map Value.int) := (VL_set p3 nn 4 _ rfl hlt ▸ A3)
    have Z3 : n0 ≤ h3.size := Nat.le_trans Z0 (Keep.of_wr W3).1
    have N3 := Fr.snoc X3 N2 g6
    refine Done.step st3 ?_
    show Done p e below s _ _ _ (T3.setTop (mkF m 103 #[.val (.int p1), .val (.int p2), .val (.int p3), .val (.int x3), .val (.int x4), .val (.int x5), .val (.ref b6), .unset, .unset] []))
    exact blk5 p1 p2 p3 x3 x4 x5 b6 nn X3 hx hZ hw hby hml hown hlk hret hnm N3 Z3 e3 f5 f4 g6 hn5 hn1 hn2 hz5 hw1 hh1 hwh
  · refine Done.step (fun t k => XS.icmpYes X0.here hx rfl (pc0 := 91) (pc' := 103) rfl (hb hby at_91) rfl (flt c1).2.1 (by decide) (by decide) k) ?_
    show Done p e below s _ _ _ (T.setTop (mkF m 103 #[.val (.int p1), .val (.int p2), .val (.int p3), .val (.int x3), .val (.int x4), .val (.int x5), .val (.ref b6), .unset, .unset] []))
    have hge : nn ≤ 4 := by have := Int.not_lt.mp (fun q => c1 (Int32.lt_iff_toInt_lt.mpr q)); rw [hn5] at this; have e : (4 : Int32).toInt = 4 := rfl; omega
    exact blk5 p1 p2 p3 x3 x4 x5 b6 nn X0 hx hZ hw hby hml hown hlk hret hnm N0 Z0 e0 (VL_skip p3 nn 4 hge ▸ A6) E6 g6 hn5 hn1 hn2 hz5 hw1 hh1 hwh
set_option maxRecDepth 65536 in
set_option maxHeartbeats 40000000 in
theorem blk3 {p : Program} {l : Launch} {e : Env} {s : State} {m : MethodId} {args : Array Value} {below : List Frame} {meth : Method} {c : Code} {T : State} {locs : List Loc} {Z : State} {a0 : Array Value} {h0 : Heap} {n0 : Nat} (p1 p2 p3 x3 x4 x5 : Int32) (b6 : Addr) (nn : Nat)
    (X0 : Stand p l e room_1 s m args below meth c T locs 1 12) (hx : p.tables.exec = Jvm.exec) (hZ : Z.Warmed39 s.vm) (hw : ∀ d ∈ tables_1, d.before a0 Z = true) (hby : c.code = code) (hml : c.maxLocals = 9) (hown : s.vm.findClass "com/example/wardsum/wardsum/model/GridMapFreeCellCountPinLaw" = some m.cls) (hlk : meth.locks = false) (hret : meth.sig.returnType = ret) (hnm : meth.name = "law") (N0 : Fr n0 locs) (Z0 : n0 ≤ h0.size) (e0 : T.heap = h0) (A6 : Ax Z h0 b6 .boolean ((VL p3 nn 3).map Value.int)) (E6 : Exa Z h0 b6 "[Z") (g6 : n0 ≤ b6) (hn5 : x5.toInt = nn) (hn1 : 1 ≤ nn) (hn2 : nn ≤ 12) (hz5 : nn.toInt32 = x5) (hw1 : ¬ x3 < (1 : Int32)) (hh1 : ¬ x4 < (1 : Int32)) (hwh : ((x3).toInt64 * (x4).toInt64) = (x5).toInt64) :
    Done p e below s (fun v h L => v = some (.int 1) ∧ Fr n0 L) room_1.cells room_1.slots (T.setTop (mkF m 73 #[.val (.int p1), .val (.int p2), .val (.int p3), .val (.int x3), .val (.int x4), .val (.int x5), .val (.ref b6), .unset, .unset] [])) := by
  show Done p e below s _ _ _ (T.setTop (mkF m 73 #[.val (.int p1), .val (.int p2), .val (.int p3), .val (.int x3), .val (.int x4), .val (.int x5), .val (.ref b6), .unset, .unset] []))
  refine Done.step (fun t k => XS.iconst X0.here hx rfl (hb hby at_73) k) ?_
  show Done p e below s _ _ _ (T.setTop (mkF m 74 #[.val (.int p1), .val (.int p2), .val (.int p3), .val (.int x3), .val (.int x4), .val (.int x5), .val (.ref b6), .unset, .unset] [(.int (3 : Int32))]))
  refine Done.step (fun t k => XS.iload X0.here hx rfl (hb hby at_74) rfl k) ?_
  show Done p e below s _ _ _ (T.setTop (mkF m 76 #[.val (.int p1), .val (.int p2), .val (.int p3), .val (.int x3), .val (.int x4), .val (.int x5), .val (.ref b6), .unset, .unset] [(.int x5), (.int (3 : Int32))]))
  by_cases c1 : (3 : Int32) < x5
  · refine Done.step (fun t k => XS.icmpNo X0.here hx rfl (hb hby at_76) rfl (tlt c1).2.1 k) ?_
    show Done p e below s _ _ _ (T.setTop (mkF m 79 #[.val (.int p1), .val (.int p2), .val (.int p3), .val (.int x3), .val (.int x4), .val (.int x5), .val (.ref b6), .unset, .unset] []))
    refine Done.step (fun t k => XS.aload X0.here hx rfl (hb hby at_79) rfl rfl k) ?_
    show Done p e below s _ _ _ (T.setTop (mkF m 81 #[.val (.int p1), .val (.int p2), .val (.int p3), .val (.int x3), .val (.int x4), .val (.int x5), .val (.ref b6), .unset, .unset] [(.ref b6)]))
    refine Done.step (fun t k => XS.iconst X0.here hx rfl (hb hby at_81) k) ?_
    show Done p e below s _ _ _ (T.setTop (mkF m 82 #[.val (.int p1), .val (.int p2), .val (.int p3), .val (.int x3), .val (.int x4), .val (.int x5), .val (.ref b6), .unset, .unset] [(.int (3 : Int32)), (.ref b6)]))
    refine Done.step (fun t k => XS.iloadN X0.here hx rfl (hb hby at_82) rfl k) ?_
    show Done p e below s _ _ _ (T.setTop (mkF m 83 #[.val (.int p1), .val (.int p2), .val (.int p3), .val (.int x3), .val (.int x4), .val (.int x5), .val (.ref b6), .unset, .unset] [(.int p3), (.int (3 : Int32)), (.ref b6)]))
    refine Done.step (fun t k => XS.iconst X0.here hx rfl (hb hby at_83) k) ?_
    show Done p e below s _ _ _ (T.setTop (mkF m 84 #[.val (.int p1), .val (.int p2), .val (.int p3), .val (.int x3), .val (.int x4), .val (.int x5), .val (.ref b6), .unset, .unset] [(.int (3 : Int32)), (.int p3), (.int (3 : Int32)), (.ref b6)]))
    obtain ⟨v2, _, ⟨T2, L2, k2, n2⟩, -, X2, ⟨Lc2, hQ2, l2, y2, z2⟩, st2⟩ := Jvm.LawKit.callS X0 hx (y := (⟨"com/example/wardsum/wardsum/model/GridMapFreeCellCountPinLaw", "bit", "(II)Z"⟩ : MethodName)) hown (mvT hZ (hw _ (List.mem_of_getElem? (i := 2) rfl))) (mvT hZ (hw _ (List.mem_of_getElem? (i := 3) rfl))) (mvT hZ (hw _ (List.mem_of_getElem? (i := 4) rfl))) (mvT hZ (hw _ (List.mem_of_getElem? (i := 5) rfl))) (by decide) (backOf (W := 2) (rm1 l Z a0 hw [] p3 (3 : Int32) h0 n0 Z0 ) hZ (hw _ (List.mem_of_getElem? (i := 5) rfl)) (hw _ (List.mem_of_getElem? (i := 4) rfl)) (by decide) (by decide)) (g := (mkF m 84 #[.val (.int p1), .val (.int p2), .val (.int p3), .val (.int x3), .val (.int x4), .val (.int x5), .val (.ref b6), .unset, .unset] [(.int (3 : Int32)), (.int p3), (.int (3 : Int32)), (.ref b6)])) rfl (by rw [hml]; rfl) (argsL := [(.int p3), (.int (3 : Int32))]) (rest := [(.int (3 : Int32)), (.ref b6)]) (lenOf pd_0 rfl) rfl (by show 2 * 0 + _ ≤ _; exact Nat.le_of_eq rfl) (hb hby at_84) (fun _ _ => ⟨rfl, e0, (by decide : 1 + 0 ≤ _), (by decide : 12 + 0 ≤ _)⟩)
    dsimp only [Pt.U, Pt.locs, Pt.cells, Pt.slots] at X2 l2 y2 z2 st2 hQ2
    subst l2 y2 z2
    refine Done.step st2 ?_
    obtain ⟨rfl, N2q, e2⟩ := hQ2
    have N2 := Fr.app N0 N2q
    show Done p e below s _ _ _ (T2.setTop (mkF m 87 #[.val (.int p1), .val (.int p2), .val (.int p3), .val (.int x3), .val (.int x4), .val (.int x5), .val (.ref b6), .unset, .unset] [(.int (F1 p3 (3 : Int32))), (.int (3 : Int32)), (.ref b6)]))
    have hlt : 3 < nn := by have := Int32.lt_iff_toInt_lt.mp c1; rw [hn5] at this; have e : (3 : Int32).toInt = 3 := rfl; omega
    obtain ⟨T3, h3, X3, e3, W3, A3, st3⟩ := stoZ X2 hx hZ e2 A6 (j := (3 : Int32)) (by decide) (i := 3) (by decide) (by rw [List.length_map, VL_len]; exact hlt) (g := (mkF m 87 #[.val (.int p1), .val (.int p2), .val (.int p3), .val (.int x3), .val (.int x4), .val (.int x5), .val (.ref b6), .unset, .unset] [(.int (F1 p3 (3 : Int32))), (.int (3 : Int32)), (.ref b6)])) rfl rfl (hb hby at_87)
    have f4 : Exa Z h3 b6 "[Z" := E6.wr W3
    have f5 : Ax Z h3 b6 .boolean ((VL p3 nn 4).map Value.int) := (VL_set p3 nn 3 _ rfl hlt ▸ A3)
    have Z3 : n0 ≤ h3.size := Nat.le_trans Z0 (Keep.of_wr W3).1
    have N3 := Fr.snoc X3 N2 g6
    refine Done.step st3 ?_
    show Done p e below s _ _ _ (T3.setTop (mkF m 88 #[.val (.int p1), .val (.int p2), .val (.int p3), .val (.int x3), .val (.int x4), .val (.int x5), .val (.ref b6), .unset, .unset] []))
    exact blk4 p1 p2 p3 x3 x4 x5 b6 nn X3 hx hZ hw hby hml hown hlk hret hnm N3 Z3 e3 f5 f4 g6 hn5 hn1 hn2 hz5 hw1 hh1 hwh
  · refine Done.step (fun t k => XS.icmpYes X0.here hx rfl (pc0 := 76) (pc' := 88) rfl (hb hby at_76) rfl (flt c1).2.1 (by decide) (by decide) k) ?_
    show Done p e below s _ _ _ (T.setTop (mkF m 88 #[.val (.int p1), .val (.int p2), .val (.int p3), .val (.int x3), .val (.int x4), .val (.int x5), .val (.ref b6), .unset, .unset] []))
    have hge : nn ≤ 3 := by have := Int.not_lt.mp (fun q => c1 (Int32.lt_iff_toInt_lt.mpr q)); rw [hn5] at this; have e : (3 : Int32).toInt = 3 := rfl; omega
    exact blk4 p1 p2 p3 x3 x4 x5 b6 nn X0 hx hZ hw hby hml hown hlk hret hnm N0 Z0 e0 (VL_skip p3 nn 3 hge ▸ A6) E6 g6 hn5 hn1 hn2 hz5 hw1 hh1 hwh
set_option maxRecDepth 65536 in
set_option maxHeartbeats 40000000 in
theorem blk2 {p : Program} {l : Launch} {e : Env} {s : State} {m : MethodId} {args : Array Value} {below : List Frame} {meth : Method} {c : Code} {T : State} {locs : List Loc} {Z : State} {a0 : Array Value} {h0 : Heap} {n0 : Nat} (p1 p2 p3 x3 x4 x5 : Int32) (b6 : Addr) (nn : Nat)
    (X0 : Stand p l e room_1 s m args below meth c T locs 1 12) (hx : p.tables.exec = Jvm.exec) (hZ : Z.Warmed39 s.vm) (hw : ∀ d ∈ tables_1, d.before a0 Z = true) (hby : c.code = code) (hml : c.maxLocals = 9) (hown : s.vm.findClass "com/example/wardsum/wardsum/model/GridMapFreeCellCountPinLaw" = some m.cls) (hlk : meth.locks = false) (hret : meth.sig.returnType = ret) (hnm : meth.name = "law") (N0 : Fr n0 locs) (Z0 : n0 ≤ h0.size) (e0 : T.heap = h0) (A6 : Ax Z h0 b6 .boolean ((VL p3 nn 2).map Value.int)) (E6 : Exa Z h0 b6 "[Z") (g6 : n0 ≤ b6) (hn5 : x5.toInt = nn) (hn1 : 1 ≤ nn) (hn2 : nn ≤ 12) (hz5 : nn.toInt32 = x5) (hw1 : ¬ x3 < (1 : Int32)) (hh1 : ¬ x4 < (1 : Int32)) (hwh : ((x3).toInt64 * (x4).toInt64) = (x5).toInt64) :
    Done p e below s (fun v h L => v = some (.int 1) ∧ Fr n0 L) room_1.cells room_1.slots (T.setTop (mkF m 58 #[.val (.int p1), .val (.int p2), .val (.int p3), .val (.int x3), .val (.int x4), .val (.int x5), .val (.ref b6), .unset, .unset] [])) := by
  show Done p e below s _ _ _ (T.setTop (mkF m 58 #[.val (.int p1), .val (.int p2), .val (.int p3), .val (.int x3), .val (.int x4), .val (.int x5), .val (.ref b6), .unset, .unset] []))
  refine Done.step (fun t k => XS.iconst X0.here hx rfl (hb hby at_58) k) ?_
  show Done p e below s _ _ _ (T.setTop (mkF m 59 #[.val (.int p1), .val (.int p2), .val (.int p3), .val (.int x3), .val (.int x4), .val (.int x5), .val (.ref b6), .unset, .unset] [(.int (2 : Int32))]))
  refine Done.step (fun t k => XS.iload X0.here hx rfl (hb hby at_59) rfl k) ?_
  show Done p e below s _ _ _ (T.setTop (mkF m 61 #[.val (.int p1), .val (.int p2), .val (.int p3), .val (.int x3), .val (.int x4), .val (.int x5), .val (.ref b6), .unset, .unset] [(.int x5), (.int (2 : Int32))]))
  by_cases c1 : (2 : Int32) < x5
  · refine Done.step (fun t k => XS.icmpNo X0.here hx rfl (hb hby at_61) rfl (tlt c1).2.1 k) ?_
    show Done p e below s _ _ _ (T.setTop (mkF m 64 #[.val (.int p1), .val (.int p2), .val (.int p3), .val (.int x3), .val (.int x4), .val (.int x5), .val (.ref b6), .unset, .unset] []))
    refine Done.step (fun t k => XS.aload X0.here hx rfl (hb hby at_64) rfl rfl k) ?_
    show Done p e below s _ _ _ (T.setTop (mkF m 66 #[.val (.int p1), .val (.int p2), .val (.int p3), .val (.int x3), .val (.int x4), .val (.int x5), .val (.ref b6), .unset, .unset] [(.ref b6)]))
    refine Done.step (fun t k => XS.iconst X0.here hx rfl (hb hby at_66) k) ?_
    show Done p e below s _ _ _ (T.setTop (mkF m 67 #[.val (.int p1), .val (.int p2), .val (.int p3), .val (.int x3), .val (.int x4), .val (.int x5), .val (.ref b6), .unset, .unset] [(.int (2 : Int32)), (.ref b6)]))
    refine Done.step (fun t k => XS.iloadN X0.here hx rfl (hb hby at_67) rfl k) ?_
    show Done p e below s _ _ _ (T.setTop (mkF m 68 #[.val (.int p1), .val (.int p2), .val (.int p3), .val (.int x3), .val (.int x4), .val (.int x5), .val (.ref b6), .unset, .unset] [(.int p3), (.int (2 : Int32)), (.ref b6)]))
    refine Done.step (fun t k => XS.iconst X0.here hx rfl (hb hby at_68) k) ?_
    show Done p e below s _ _ _ (T.setTop (mkF m 69 #[.val (.int p1), .val (.int p2), .val (.int p3), .val (.int x3), .val (.int x4), .val (.int x5), .val (.ref b6), .unset, .unset] [(.int (2 : Int32)), (.int p3), (.int (2 : Int32)), (.ref b6)]))
    obtain ⟨v2, _, ⟨T2, L2, k2, n2⟩, -, X2, ⟨Lc2, hQ2, l2, y2, z2⟩, st2⟩ := Jvm.LawKit.callS X0 hx (y := (⟨"com/example/wardsum/wardsum/model/GridMapFreeCellCountPinLaw", "bit", "(II)Z"⟩ : MethodName)) hown (mvT hZ (hw _ (List.mem_of_getElem? (i := 2) rfl))) (mvT hZ (hw _ (List.mem_of_getElem? (i := 3) rfl))) (mvT hZ (hw _ (List.mem_of_getElem? (i := 4) rfl))) (mvT hZ (hw _ (List.mem_of_getElem? (i := 5) rfl))) (by decide) (backOf (W := 2) (rm1 l Z a0 hw [] p3 (2 : Int32) h0 n0 Z0 ) hZ (hw _ (List.mem_of_getElem? (i := 5) rfl)) (hw _ (List.mem_of_getElem? (i := 4) rfl)) (by decide) (by decide)) (g := (mkF m 69 #[.val (.int p1), .val (.int p2), .val (.int p3), .val (.int x3), .val (.int x4), .val (.int x5), .val (.ref b6), .unset, .unset] [(.int (2 : Int32)), (.int p3), (.int (2 : Int32)), (.ref b6)])) rfl (by rw [hml]; rfl) (argsL := [(.int p3), (.int (2 : Int32))]) (rest := [(.int (2 : Int32)), (.ref b6)]) (lenOf pd_0 rfl) rfl (by show 2 * 0 + _ ≤ _; exact Nat.le_of_eq rfl) (hb hby at_69) (fun _ _ => ⟨rfl, e0, (by decide : 1 + 0 ≤ _), (by decide : 12 + 0 ≤ _)⟩)
    dsimp only [Pt.U, Pt.locs, Pt.cells, Pt.slots] at X2 l2 y2 z2 st2 hQ2
    subst l2 y2 z2
    refine Done.step st2 ?_
    obtain ⟨rfl, N2q, e2⟩ := hQ2
    have N2 := Fr.app N0 N2q
    show Done p e below s _ _ _ (T2.setTop (mkF m 72 #[.val (.int p1), .val (.int p2), .val (.int p3), .val (.int x3), .val (.int x4), .val (.int x5), .val (.ref b6), .unset, .unset] [(.int (F1 p3 (2 : Int32))), (.int (2 : Int32)), (.ref b6)]))
    have hlt : 2 < nn := by have := Int32.lt_iff_toInt_lt.mp c1; rw [hn5] at this; have e : (2 : Int32).toInt = 2 := rfl; omega
    obtain ⟨T3, h3, X3, e3, W3, A3, st3⟩ := stoZ X2 hx hZ e2 A6 (j := (2 : Int32)) (by decide) (i := 2) (by decide) (by rw [List.length_map, VL_len]; exact hlt) (g := (mkF m 72 #[.val (.int p1), .val (.int p2), .val (.int p3), .val (.int x3), .val (.int x4), .val (.int x5), .val (.ref b6), .unset, .unset] [(.int (F1 p3 (2 : Int32))), (.int (2 : Int32)), (.ref b6)])) rfl rfl (hb hby at_72)
    have f4 : Exa Z h3 b6 "[Z" := E6.wr W3
    have f5 : Ax Z h3 b6 .boolean ((VL p3 nn 3).map Value.int) := (VL_set p3 nn 2 _ rfl hlt ▸ A3)
    have Z3 : n0 ≤ h3.size := Nat.le_trans Z0 (Keep.of_wr W3).1
    have N3 := Fr.snoc X3 N2 g6
    refine Done.step st3 ?_
    show Done p e below s _ _ _ (T3.setTop (mkF m 73 #[.val (.int p1), .val (.int p2), .val (.int p3), .val (.int x3), .val (.int x4), .val (.int x5), .val (.ref b6), .unset, .unset] []))
    exact blk3 p1 p2 p3 x3 x4 x5 b6 nn X3 hx hZ hw hby hml hown hlk hret hnm N3 Z3 e3 f5 f4 g6 hn5 hn1 hn2 hz5 hw1 hh1 hwh
  · refine Done.step (fun t k => XS.icmpYes X0.here hx rfl (pc0 := 61) (pc' := 73) rfl (hb hby at_61) rfl (flt c1).2.1 (by decide) (by decide) k) ?_
    show Done p e below s _ _ _ (T.setTop (mkF m 73 #[.val (.int p1), .val (.int p2), .val (.int p3), .val (.int x3), .val (.int x4), .val (.int x5), .val (.ref b6), .unset, .unset] []))
    have hge : nn ≤ 2 := by have := Int.not_lt.mp (fun q => c1 (Int32.lt_iff_toInt_lt.mpr q)); rw [hn5] at this; have e : (2 : Int32).toInt = 2 := rfl; omega
    exact blk3 p1 p2 p3 x3 x4 x5 b6 nn X0 hx hZ hw hby hml hown hlk hret hnm N0 Z0 e0 (VL_skip p3 nn 2 hge ▸ A6) E6 g6 hn5 hn1 hn2 hz5 hw1 hh1 hwh
set_option maxRecDepth 65536 in
set_option maxHeartbeats 40000000 in
theorem blk1 {p : Program} {l : Launch} {e : Env} {s : State} {m : MethodId} {args : Array Value} {below : List Frame} {meth : Method} {c : Code} {T : State} {locs : List Loc} {Z : State} {a0 : Array Value} {h0 : Heap} {n0 : Nat} (p1 p2 p3 x3 x4 x5 : Int32) (b6 : Addr) (nn : Nat)
    (X0 : Stand p l e room_1 s m args below meth c T locs 1 12) (hx : p.tables.exec = Jvm.exec) (hZ : Z.Warmed39 s.vm) (hw : ∀ d ∈ tables_1, d.before a0 Z = true) (hby : c.code = code) (hml : c.maxLocals = 9) (hown : s.vm.findClass "com/example/wardsum/wardsum/model/GridMapFreeCellCountPinLaw" = some m.cls) (hlk : meth.locks = false) (hret : meth.sig.returnType = ret) (hnm : meth.name = "law") (N0 : Fr n0 locs) (Z0 : n0 ≤ h0.size) (e0 : T.heap = h0) (A6 : Ax Z h0 b6 .boolean ((VL p3 nn 1).map Value.int)) (E6 : Exa Z h0 b6 "[Z") (g6 : n0 ≤ b6) (hn5 : x5.toInt = nn) (hn1 : 1 ≤ nn) (hn2 : nn ≤ 12) (hz5 : nn.toInt32 = x5) (hw1 : ¬ x3 < (1 : Int32)) (hh1 : ¬ x4 < (1 : Int32)) (hwh : ((x3).toInt64 * (x4).toInt64) = (x5).toInt64) :
    Done p e below s (fun v h L => v = some (.int 1) ∧ Fr n0 L) room_1.cells room_1.slots (T.setTop (mkF m 43 #[.val (.int p1), .val (.int p2), .val (.int p3), .val (.int x3), .val (.int x4), .val (.int x5), .val (.ref b6), .unset, .unset] [])) := by
  show Done p e below s _ _ _ (T.setTop (mkF m 43 #[.val (.int p1), .val (.int p2), .val (.int p3), .val (.int x3), .val (.int x4), .val (.int x5), .val (.ref b6), .unset, .unset] []))
  refine Done.step (fun t k => XS.iconst X0.here hx rfl (hb hby at_43) k) ?_
  show Done p e below s _ _ _ (T.setTop (mkF m 44 #[.val (.int p1), .val (.int p2), .val (.int p3), .val (.int x3), .val (.int x4), .val (.int x5), .val (.ref b6), .unset, .unset] [(.int (1 : Int32))]))
  refine Done.step (fun t k => XS.iload X0.here hx rfl (hb hby at_44) rfl k) ?_
  show Done p e below s _ _ _ (T.setTop (mkF m 46 #[.val (.int p1), .val (.int p2), .val (.int p3), .val (.int x3), .val (.int x4), .val (.int x5), .val (.ref b6), .unset, .unset] [(.int x5), (.int (1 : Int32))]))
  by_cases c1 : (1 : Int32) < x5
  · refine Done.step (fun t k => XS.icmpNo X0.here hx rfl (hb hby at_46) rfl (tlt c1).2.1 k) ?_
    show Done p e below s _ _ _ (T.setTop (mkF m 49 #[.val (.int p1), .val (.int p2), .val (.int p3), .val (.int x3), .val (.int x4), .val (.int x5), .val (.ref b6), .unset, .unset] []))
    refine Done.step (fun t k => XS.aload X0.here hx rfl (hb hby at_49) rfl rfl k) ?_
    show Done p e below s _ _ _ (T.setTop (mkF m 51 #[.val (.int p1), .val (.int p2), .val (.int p3), .val (.int x3), .val (.int x4), .val (.int x5), .val (.ref b6), .unset, .unset] [(.ref b6)]))
    refine Done.step (fun t k => XS.iconst X0.here hx rfl (hb hby at_51) k) ?_
    show Done p e below s _ _ _ (T.setTop (mkF m 52 #[.val (.int p1), .val (.int p2), .val (.int p3), .val (.int x3), .val (.int x4), .val (.int x5), .val (.ref b6), .unset, .unset] [(.int (1 : Int32)), (.ref b6)]))
    refine Done.step (fun t k => XS.iloadN X0.here hx rfl (hb hby at_52) rfl k) ?_
    show Done p e below s _ _ _ (T.setTop (mkF m 53 #[.val (.int p1), .val (.int p2), .val (.int p3), .val (.int x3), .val (.int x4), .val (.int x5), .val (.ref b6), .unset, .unset] [(.int p3), (.int (1 : Int32)), (.ref b6)]))
    refine Done.step (fun t k => XS.iconst X0.here hx rfl (hb hby at_53) k) ?_
    show Done p e below s _ _ _ (T.setTop (mkF m 54 #[.val (.int p1), .val (.int p2), .val (.int p3), .val (.int x3), .val (.int x4), .val (.int x5), .val (.ref b6), .unset, .unset] [(.int (1 : Int32)), (.int p3), (.int (1 : Int32)), (.ref b6)]))
    obtain ⟨v2, _, ⟨T2, L2, k2, n2⟩, -, X2, ⟨Lc2, hQ2, l2, y2, z2⟩, st2⟩ := Jvm.LawKit.callS X0 hx (y := (⟨"com/example/wardsum/wardsum/model/GridMapFreeCellCountPinLaw", "bit", "(II)Z"⟩ : MethodName)) hown (mvT hZ (hw _ (List.mem_of_getElem? (i := 2) rfl))) (mvT hZ (hw _ (List.mem_of_getElem? (i := 3) rfl))) (mvT hZ (hw _ (List.mem_of_getElem? (i := 4) rfl))) (mvT hZ (hw _ (List.mem_of_getElem? (i := 5) rfl))) (by decide) (backOf (W := 2) (rm1 l Z a0 hw [] p3 (1 : Int32) h0 n0 Z0 ) hZ (hw _ (List.mem_of_getElem? (i := 5) rfl)) (hw _ (List.mem_of_getElem? (i := 4) rfl)) (by decide) (by decide)) (g := (mkF m 54 #[.val (.int p1), .val (.int p2), .val (.int p3), .val (.int x3), .val (.int x4), .val (.int x5), .val (.ref b6), .unset, .unset] [(.int (1 : Int32)), (.int p3), (.int (1 : Int32)), (.ref b6)])) rfl (by rw [hml]; rfl) (argsL := [(.int p3), (.int (1 : Int32))]) (rest := [(.int (1 : Int32)), (.ref b6)]) (lenOf pd_0 rfl) rfl (by show 2 * 0 + _ ≤ _; exact Nat.le_of_eq rfl) (hb hby at_54) (fun _ _ => ⟨rfl, e0, (by decide : 1 + 0 ≤ _), (by decide : 12 + 0 ≤ _)⟩)
    dsimp only [Pt.U, Pt.locs, Pt.cells, Pt.slots] at X2 l2 y2 z2 st2 hQ2
    subst l2 y2 z2
    refine Done.step st2 ?_
    obtain ⟨rfl, N2q, e2⟩ := hQ2
    have N2 := Fr.app N0 N2q
    show Done p e below s _ _ _ (T2.setTop (mkF m 57 #[.val (.int p1), .val (.int p2), .val (.int p3), .val (.int x3), .val (.int x4), .val (.int x5), .val (.ref b6), .unset, .unset] [(.int (F1 p3 (1 : Int32))), (.int (1 : Int32)), (.ref b6)]))
    have hlt : 1 < nn := by have := Int32.lt_iff_toInt_lt.mp c1; rw [hn5] at this; have e : (1 : Int32).toInt = 1 := rfl; omega
    obtain ⟨T3, h3, X3, e3, W3, A3, st3⟩ := stoZ X2 hx hZ e2 A6 (j := (1 : Int32)) (by decide) (i := 1) (by decide) (by rw [List.length_map, VL_len]; exact hlt) (g := (mkF m 57 #[.val (.int p1), .val (.int p2), .val (.int p3), .val (.int x3), .val (.int x4), .val (.int x5), .val (.ref b6), .unset, .unset] [(.int (F1 p3 (1 : Int32))), (.int (1 : Int32)), (.ref b6)])) rfl rfl (hb hby at_57)
    have f4 : Exa Z h3 b6 "[Z" := E6.wr W3
    have f5 : Ax Z h3 b6 .boolean ((VL p3 nn 2).map Value.int) := (VL_set p3 nn 1 _ rfl hlt ▸ A3)
    have Z3 : n0 ≤ h3.size := Nat.le_trans Z0 (Keep.of_wr W3).1
    have N3 := Fr.snoc X3 N2 g6
    refine Done.step st3 ?_
    show Done p e below s _ _ _ (T3.setTop (mkF m 58 #[.val (.int p1), .val (.int p2), .val (.int p3), .val (.int x3), .val (.int x4), .val (.int x5), .val (.ref b6), .unset, .unset] []))
    exact blk2 p1 p2 p3 x3 x4 x5 b6 nn X3 hx hZ hw hby hml hown hlk hret hnm N3 Z3 e3 f5 f4 g6 hn5 hn1 hn2 hz5 hw1 hh1 hwh
  · refine Done.step (fun t k => XS.icmpYes X0.here hx rfl (pc0 := 46) (pc' := 58) rfl (hb hby at_46) rfl (flt c1).2.1 (by decide) (by decide) k) ?_
    show Done p e below s _ _ _ (T.setTop (mkF m 58 #[.val (.int p1), .val (.int p2), .val (.int p3), .val (.int x3), .val (.int x4), .val (.int x5), .val (.ref b6), .unset, .unset] []))
    have hge : nn ≤ 1 := by have := Int.not_lt.mp (fun q => c1 (Int32.lt_iff_toInt_lt.mpr q)); rw [hn5] at this; have e : (1 : Int32).toInt = 1 := rfl; omega
    exact blk2 p1 p2 p3 x3 x4 x5 b6 nn X0 hx hZ hw hby hml hown hlk hret hnm N0 Z0 e0 (VL_skip p3 nn 1 hge ▸ A6) E6 g6 hn5 hn1 hn2 hz5 hw1 hh1 hwh
set_option maxRecDepth 65536 in
set_option maxHeartbeats 40000000 in
theorem blk0 {p : Program} {l : Launch} {e : Env} {s : State} {m : MethodId} {args : Array Value} {below : List Frame} {meth : Method} {c : Code} {T : State} {locs : List Loc} {Z : State} {a0 : Array Value} {h0 : Heap} {n0 : Nat} (p1 p2 p3 x3 x4 x5 : Int32) (b6 : Addr) (nn : Nat)
    (X0 : Stand p l e room_1 s m args below meth c T locs 1 12) (hx : p.tables.exec = Jvm.exec) (hZ : Z.Warmed39 s.vm) (hw : ∀ d ∈ tables_1, d.before a0 Z = true) (hby : c.code = code) (hml : c.maxLocals = 9) (hown : s.vm.findClass "com/example/wardsum/wardsum/model/GridMapFreeCellCountPinLaw" = some m.cls) (hlk : meth.locks = false) (hret : meth.sig.returnType = ret) (hnm : meth.name = "law") (N0 : Fr n0 locs) (Z0 : n0 ≤ h0.size) (e0 : T.heap = h0) (A6 : Ax Z h0 b6 .boolean ((VL p3 nn 0).map Value.int)) (E6 : Exa Z h0 b6 "[Z") (g6 : n0 ≤ b6) (hn5 : x5.toInt = nn) (hn1 : 1 ≤ nn) (hn2 : nn ≤ 12) (hz5 : nn.toInt32 = x5) (hw1 : ¬ x3 < (1 : Int32)) (hh1 : ¬ x4 < (1 : Int32)) (hwh : ((x3).toInt64 * (x4).toInt64) = (x5).toInt64) :
    Done p e below s (fun v h L => v = some (.int 1) ∧ Fr n0 L) room_1.cells room_1.slots (T.setTop (mkF m 28 #[.val (.int p1), .val (.int p2), .val (.int p3), .val (.int x3), .val (.int x4), .val (.int x5), .val (.ref b6), .unset, .unset] [])) := by
  show Done p e below s _ _ _ (T.setTop (mkF m 28 #[.val (.int p1), .val (.int p2), .val (.int p3), .val (.int x3), .val (.int x4), .val (.int x5), .val (.ref b6), .unset, .unset] []))
  refine Done.step (fun t k => XS.iconst X0.here hx rfl (hb hby at_28) k) ?_
  show Done p e below s _ _ _ (T.setTop (mkF m 29 #[.val (.int p1), .val (.int p2), .val (.int p3), .val (.int x3), .val (.int x4), .val (.int x5), .val (.ref b6), .unset, .unset] [(.int (0 : Int32))]))
  refine Done.step (fun t k => XS.iload X0.here hx rfl (hb hby at_29) rfl k) ?_
  show Done p e below s _ _ _ (T.setTop (mkF m 31 #[.val (.int p1), .val (.int p2), .val (.int p3), .val (.int x3), .val (.int x4), .val (.int x5), .val (.ref b6), .unset, .unset] [(.int x5), (.int (0 : Int32))]))
  by_cases c1 : (0 : Int32) < x5
  · refine Done.step (fun t k => XS.icmpNo X0.here hx rfl (hb hby at_31) rfl (tlt c1).2.1 k) ?_
    show Done p e below s _ _ _ (T.setTop (mkF m 34 #[.val (.int p1), .val (.int p2), .val (.int p3), .val (.int x3), .val (.int x4), .val (.int x5), .val (.ref b6), .unset, .unset] []))
    refine Done.step (fun t k => XS.aload X0.here hx rfl (hb hby at_34) rfl rfl k) ?_
    show Done p e below s _ _ _ (T.setTop (mkF m 36 #[.val (.int p1), .val (.int p2), .val (.int p3), .val (.int x3), .val (.int x4), .val (.int x5), .val (.ref b6), .unset, .unset] [(.ref b6)]))
    refine Done.step (fun t k => XS.iconst X0.here hx rfl (hb hby at_36) k) ?_
    show Done p e below s _ _ _ (T.setTop (mkF m 37 #[.val (.int p1), .val (.int p2), .val (.int p3), .val (.int x3), .val (.int x4), .val (.int x5), .val (.ref b6), .unset, .unset] [(.int (0 : Int32)), (.ref b6)]))
    refine Done.step (fun t k => XS.iloadN X0.here hx rfl (hb hby at_37) rfl k) ?_
    show Done p e below s _ _ _ (T.setTop (mkF m 38 #[.val (.int p1), .val (.int p2), .val (.int p3), .val (.int x3), .val (.int x4), .val (.int x5), .val (.ref b6), .unset, .unset] [(.int p3), (.int (0 : Int32)), (.ref b6)]))
    refine Done.step (fun t k => XS.iconst X0.here hx rfl (hb hby at_38) k) ?_
    show Done p e below s _ _ _ (T.setTop (mkF m 39 #[.val (.int p1), .val (.int p2), .val (.int p3), .val (.int x3), .val (.int x4), .val (.int x5), .val (.ref b6), .unset, .unset] [(.int (0 : Int32)), (.int p3), (.int (0 : Int32)), (.ref b6)]))
    obtain ⟨v2, _, ⟨T2, L2, k2, n2⟩, -, X2, ⟨Lc2, hQ2, l2, y2, z2⟩, st2⟩ := Jvm.LawKit.callS X0 hx (y := (⟨"com/example/wardsum/wardsum/model/GridMapFreeCellCountPinLaw", "bit", "(II)Z"⟩ : MethodName)) hown (mvT hZ (hw _ (List.mem_of_getElem? (i := 2) rfl))) (mvT hZ (hw _ (List.mem_of_getElem? (i := 3) rfl))) (mvT hZ (hw _ (List.mem_of_getElem? (i := 4) rfl))) (mvT hZ (hw _ (List.mem_of_getElem? (i := 5) rfl))) (by decide) (backOf (W := 2) (rm1 l Z a0 hw [] p3 (0 : Int32) h0 n0 Z0 ) hZ (hw _ (List.mem_of_getElem? (i := 5) rfl)) (hw _ (List.mem_of_getElem? (i := 4) rfl)) (by decide) (by decide)) (g := (mkF m 39 #[.val (.int p1), .val (.int p2), .val (.int p3), .val (.int x3), .val (.int x4), .val (.int x5), .val (.ref b6), .unset, .unset] [(.int (0 : Int32)), (.int p3), (.int (0 : Int32)), (.ref b6)])) rfl (by rw [hml]; rfl) (argsL := [(.int p3), (.int (0 : Int32))]) (rest := [(.int (0 : Int32)), (.ref b6)]) (lenOf pd_0 rfl) rfl (by show 2 * 0 + _ ≤ _; exact Nat.le_of_eq rfl) (hb hby at_39) (fun _ _ => ⟨rfl, e0, (by decide : 1 + 0 ≤ _), (by decide : 12 + 0 ≤ _)⟩)
    dsimp only [Pt.U, Pt.locs, Pt.cells, Pt.slots] at X2 l2 y2 z2 st2 hQ2
    subst l2 y2 z2
    refine Done.step st2 ?_
    obtain ⟨rfl, N2q, e2⟩ := hQ2
    have N2 := Fr.app N0 N2q
    show Done p e below s _ _ _ (T2.setTop (mkF m 42 #[.val (.int p1), .val (.int p2), .val (.int p3), .val (.int x3), .val (.int x4), .val (.int x5), .val (.ref b6), .unset, .unset] [(.int (F1 p3 (0 : Int32))), (.int (0 : Int32)), (.ref b6)]))
    have hlt : 0 < nn := by have := Int32.lt_iff_toInt_lt.mp c1; rw [hn5] at this; have e : (0 : Int32).toInt = 0 := rfl; omega
    obtain ⟨T3, h3, X3, e3, W3, A3, st3⟩ := stoZ X2 hx hZ e2 A6 (j := (0 : Int32)) (by decide) (i := 0) (by decide) (by rw [List.length_map, VL_len]; exact hlt) (g := (mkF m 42 #[.val (.int p1), .val (.int p2), .val (.int p3), .val (.int x3), .val (.int x4), .val (.int x5), .val (.ref b6), .unset, .unset] [(.int (F1 p3 (0 : Int32))), (.int (0 : Int32)), (.ref b6)])) rfl rfl (hb hby at_42)
    have f4 : Exa Z h3 b6 "[Z" := E6.wr W3
    have f5 : Ax Z h3 b6 .boolean ((VL p3 nn 1).map Value.int) := (VL_set p3 nn 0 _ rfl hlt ▸ A3)
    have Z3 : n0 ≤ h3.size := Nat.le_trans Z0 (Keep.of_wr W3).1
    have N3 := Fr.snoc X3 N2 g6
    refine Done.step st3 ?_
    show Done p e below s _ _ _ (T3.setTop (mkF m 43 #[.val (.int p1), .val (.int p2), .val (.int p3), .val (.int x3), .val (.int x4), .val (.int x5), .val (.ref b6), .unset, .unset] []))
    exact blk1 p1 p2 p3 x3 x4 x5 b6 nn X3 hx hZ hw hby hml hown hlk hret hnm N3 Z3 e3 f5 f4 g6 hn5 hn1 hn2 hz5 hw1 hh1 hwh
  · refine Done.step (fun t k => XS.icmpYes X0.here hx rfl (pc0 := 31) (pc' := 43) rfl (hb hby at_31) rfl (flt c1).2.1 (by decide) (by decide) k) ?_
    show Done p e below s _ _ _ (T.setTop (mkF m 43 #[.val (.int p1), .val (.int p2), .val (.int p3), .val (.int x3), .val (.int x4), .val (.int x5), .val (.ref b6), .unset, .unset] []))
    have hge : nn ≤ 0 := by have := Int.not_lt.mp (fun q => c1 (Int32.lt_iff_toInt_lt.mpr q)); rw [hn5] at this; have e : (0 : Int32).toInt = 0 := rfl; omega
    exact blk1 p1 p2 p3 x3 x4 x5 b6 nn X0 hx hZ hw hby hml hown hlk hret hnm N0 Z0 e0 (VL_skip p3 nn 0 hge ▸ A6) E6 g6 hn5 hn1 hn2 hz5 hw1 hh1 hwh
theorem own_dim (p1 p2 a b n : Int32) (ha : ((1 : Int32) + (p1 &&& (3 : Int32))) = a) (hb : ((1 : Int32) + ((p2 &&& (2147483647 : Int32)) % (3 : Int32))) = b) (hn : (a * b) = n) : ∃ nn : Nat, n.toInt = nn ∧ 1 ≤ nn ∧ nn ≤ 12 ∧ nn.toInt32 = n ∧ ¬ a < (1 : Int32) ∧ ¬ b < (1 : Int32) ∧ ((a).toInt64 * (b).toInt64) = (n).toInt64 := by
  have e1 : (1 : Int32).toInt = 1 := rfl
  have m1 := c_mask p1 (3 : Int32) 2 (by decide) (by decide)
  have m2 := c_mask p2 (2147483647 : Int32) 31 (by decide) (by decide)
  have r := (c_irem (p2 &&& (2147483647 : Int32)) (3 : Int32) 3 (by decide)).1 (by omega)
  have s1 := c_iadd (1 : Int32) (p1 &&& (3 : Int32))
  have s2 := c_iadd (1 : Int32) ((p2 &&& (2147483647 : Int32)) % (3 : Int32))
  have ra := rng32 a
  have rb := rng32 b
  rw [ha] at s1; rw [hb] at s2
  have ha1 : 1 ≤ a.toInt ∧ a.toInt ≤ 4 := by omega
  have hb1 : 1 ≤ b.toInt ∧ b.toInt ≤ 3 := by omega
  have hm := c_imul a b
  have hl := c_lmul a.toInt64 b.toInt64
  rw [c_i2l, c_i2l] at hl
  rw [hn] at hm
  have rn := rng32 n
  have rl := rng64 (a.toInt64 * b.toInt64)
  have hp : 1 ≤ a.toInt * b.toInt ∧ a.toInt * b.toInt ≤ 12 := by
    obtain h | h | h | h : a.toInt = 1 ∨ a.toInt = 2 ∨ a.toInt = 3 ∨ a.toInt = 4 := by omega
    all_goals rw [h]; omega
  have hnn : n.toInt = a.toInt * b.toInt := by omega
  refine ⟨n.toInt.toNat, by omega, by omega, by omega, ?_, ?_, ?_, ?_⟩
  · apply Int32.toInt_inj.mp
    rw [len_toInt (by omega)]; omega
  · rw [Int32.lt_iff_toInt_lt, e1]; omega
  · rw [Int32.lt_iff_toInt_lt, e1]; omega
  · apply Int64.toInt_inj.mp
    rw [c_i2l]; omega
theorem pn_0 : plainName "com/example/wardsum/wardsum/model/GridMapFreeCellCountPinLaw" = true := by first | (simp [plainName, overriddenIn]; done) | decide +kernel
theorem ef_0 (m : MethodId) (p1 : Int32) (p2 : Int32) (p3 : Int32) : entryFrame m #[(.int p1), (.int p2), (.int p3)] maxLocals = mkF m 0 #[.val (.int p1), .val (.int p2), .val (.int p3), .unset, .unset, .unset, .unset, .unset, .unset] [] := by first | (simp [entryFrame, mkF, argsToLocals, Value.category, maxLocals]; done) | rfl
def Qrm0 (Z : State) (p1 : Int32) (p2 : Int32) (p3 : Int32) (h0 : Heap) (n0 : Nat) : Option Value → Heap → List Loc → Prop := fun v h L => v = some (.int 1) ∧ Fr n0 L
set_option maxRecDepth 65536 in
set_option maxHeartbeats 40000000 in
theorem rm0 (l : Launch) (Z : State) (a0 : Array Value) (hw : ∀ d ∈ tables_1, d.before a0 Z = true) (ws : List Jvm.Cond) (p1 : Int32) (p2 : Int32) (p3 : Int32) (h0 : Heap) (n0 : Nat) (Z0 : n0 ≤ h0.size) :
    MetFree l x (head1 (Jvm.Cond.code x code maxLocals ret :: ws) room_1) (fun a U => a = #[(.int p1), (.int p2), (.int p3)] ∧ Z.Warmed39 U.vm ∧ U.heap = h0) (fun _ _ _ _ _ => True) (fun _ U o U' => ∃ v L, o = .returned v ∧ Qrm0 Z p1 p2 p3 h0 n0 v U'.heap L ∧ FrameEnd U o U' L room_1.cells room_1.slots) := by
  refine MetFree.of_bodySF (plainFor_of_name pn_0) hisR ?_
  intro p e s m args below meth c s₁ Bd hml0 hP hK
  obtain ⟨rfl, hZ, hh⟩ := hP
  have hx := Bd.exec
  have hby := Bd.bytes
  have hml : c.maxLocals = 9 := hml0
  have hown : s.vm.findClass "com/example/wardsum/wardsum/model/GridMapFreeCellCountPinLaw" = some m.cls := findClass_of_methodNamed Bd.named
  have hnm := (name_of_methodNamed Bd.named Bd.method).1
  have hlk : meth.locks = false := BodyLoose.notSynchronized Bd
  have hret := Bd.returns
  have X0 : Stand p l e room_1 s m #[(.int p1), (.int p2), (.int p3)] below meth c s₁ [] 0 0 := Stand.of_body Bd
  have e0 : s₁.heap = h0 := by rw [← hh, Bd.state]; rfl
  have N0 := Fr.nil n0
  show Done p e below s (Qrm0 Z p1 p2 p3 h0 n0) room_1.cells room_1.slots (s₁.setTop (entryFrame m #[(.int p1), (.int p2), (.int p3)] maxLocals))
  refine Done.step (fun t k => castTop (ef_0 m p1 p2 p3) k) ?_
  show Done p e below s _ _ _ (s₁.setTop (mkF m 0 #[.val (.int p1), .val (.int p2), .val (.int p3), .unset, .unset, .unset, .unset, .unset, .unset] []))
  refine Done.step (fun t k => XS.iconst X0.here hx rfl (hb hby at_0) k) ?_
  show Done p e below s _ _ _ (s₁.setTop (mkF m 1 #[.val (.int p1), .val (.int p2), .val (.int p3), .unset, .unset, .unset, .unset, .unset, .unset] [(.int (1 : Int32))]))
  refine Done.step (fun t k => XS.iloadN X0.here hx rfl (hb hby at_1) rfl k) ?_
  show Done p e below s _ _ _ (s₁.setTop (mkF m 2 #[.val (.int p1), .val (.int p2), .val (.int p3), .unset, .unset, .unset, .unset, .unset, .unset] [(.int p1), (.int (1 : Int32))]))
  refine Done.step (fun t k => XS.iconst X0.here hx rfl (hb hby at_2) k) ?_
  show Done p e below s _ _ _ (s₁.setTop (mkF m 3 #[.val (.int p1), .val (.int p2), .val (.int p3), .unset, .unset, .unset, .unset, .unset, .unset] [(.int (3 : Int32)), (.int p1), (.int (1 : Int32))]))
  refine Done.step (fun t k => XS.iand X0.here hx rfl (hb hby at_3) rfl k) ?_
  show Done p e below s _ _ _ (s₁.setTop (mkF m 4 #[.val (.int p1), .val (.int p2), .val (.int p3), .unset, .unset, .unset, .unset, .unset, .unset] [(.int (p1 &&& (3 : Int32))), (.int (1 : Int32))]))
  refine Done.step (fun t k => XS.iadd X0.here hx rfl (hb hby at_4) rfl k) ?_
  show Done p e below s _ _ _ (s₁.setTop (mkF m 5 #[.val (.int p1), .val (.int p2), .val (.int p3), .unset, .unset, .unset, .unset, .unset, .unset] [(.int ((1 : Int32) + (p1 &&& (3 : Int32))))]))
  generalize dx1 : ((1 : Int32) + (p1 &&& (3 : Int32))) = x1
  show Done p e below s _ _ _ (s₁.setTop (mkF m 5 #[.val (.int p1), .val (.int p2), .val (.int p3), .unset, .unset, .unset, .unset, .unset, .unset] [(.int x1)]))
  refine Done.step (fun t k => XS.istoreN X0.here hx rfl (hb hby at_5) rfl (l' := #[.val (.int p1), .val (.int p2), .val (.int p3), .val (.int x1), .unset, .unset, .unset, .unset, .unset]) rfl k) ?_
  show Done p e below s _ _ _ (s₁.setTop (mkF m 6 #[.val (.int p1), .val (.int p2), .val (.int p3), .val (.int x1), .unset, .unset, .unset, .unset, .unset] []))
  refine Done.step (fun t k => XS.iconst X0.here hx rfl (hb hby at_6) k) ?_
  show Done p e below s _ _ _ (s₁.setTop (mkF m 7 #[.val (.int p1), .val (.int p2), .val (.int p3), .val (.int x1), .unset, .unset, .unset, .unset, .unset] [(.int (1 : Int32))]))
  refine Done.step (fun t k => XS.iloadN X0.here hx rfl (hb hby at_7) rfl k) ?_
  show Done p e below s _ _ _ (s₁.setTop (mkF m 8 #[.val (.int p1), .val (.int p2), .val (.int p3), .val (.int x1), .unset, .unset, .unset, .unset, .unset] [(.int p2), (.int (1 : Int32))]))
  refine Done.step (X0.ldcInt hx hown (mvT hZ (hw _ (List.mem_of_getElem? (i := 0) rfl))) (g := (mkF m 8 #[.val (.int p1), .val (.int p2), .val (.int p3), .val (.int x1), .unset, .unset, .unset, .unset, .unset] [(.int p2), (.int (1 : Int32))])) rfl (hb hby at_8)) ?_
  show Done p e below s _ _ _ (s₁.setTop (mkF m 10 #[.val (.int p1), .val (.int p2), .val (.int p3), .val (.int x1), .unset, .unset, .unset, .unset, .unset] [(.int (2147483647 : Int32)), (.int p2), (.int (1 : Int32))]))
  refine Done.step (fun t k => XS.iand X0.here hx rfl (hb hby at_10) rfl k) ?_
  show Done p e below s _ _ _ (s₁.setTop (mkF m 11 #[.val (.int p1), .val (.int p2), .val (.int p3), .val (.int x1), .unset, .unset, .unset, .unset, .unset] [(.int (p2 &&& (2147483647 : Int32))), (.int (1 : Int32))]))
  refine Done.step (fun t k => XS.iconst X0.here hx rfl (hb hby at_11) k) ?_
  show Done p e below s _ _ _ (s₁.setTop (mkF m 12 #[.val (.int p1), .val (.int p2), .val (.int p3), .val (.int x1), .unset, .unset, .unset, .unset, .unset] [(.int (3 : Int32)), (.int (p2 &&& (2147483647 : Int32))), (.int (1 : Int32))]))
  refine Done.step (fun t k => iremM X0 hx rfl (hb hby at_12) rfl (by decide) k) ?_
  show Done p e below s _ _ _ (s₁.setTop (mkF m 13 #[.val (.int p1), .val (.int p2), .val (.int p3), .val (.int x1), .unset, .unset, .unset, .unset, .unset] [(.int ((p2 &&& (2147483647 : Int32)) % (3 : Int32))), (.int (1 : Int32))]))
  refine Done.step (fun t k => XS.iadd X0.here hx rfl (hb hby at_13) rfl k) ?_
  show Done p e below s _ _ _ (s₁.setTop (mkF m 14 #[.val (.int p1), .val (.int p2), .val (.int p3), .val (.int x1), .unset, .unset, .unset, .unset, .unset] [(.int ((1 : Int32) + ((p2 &&& (2147483647 : Int32)) % (3 : Int32))))]))
  generalize dx2 : ((1 : Int32) + ((p2 &&& (2147483647 : Int32)) % (3 : Int32))) = x2
  show Done p e below s _ _ _ (s₁.setTop (mkF m 14 #[.val (.int p1), .val (.int p2), .val (.int p3), .val (.int x1), .unset, .unset, .unset, .unset, .unset] [(.int x2)]))
  refine Done.step (fun t k => XS.istore X0.here hx rfl (hb hby at_14) rfl (l' := #[.val (.int p1), .val (.int p2), .val (.int p3), .val (.int x1), .val (.int x2), .unset, .unset, .unset, .unset]) rfl k) ?_
  show Done p e below s _ _ _ (s₁.setTop (mkF m 16 #[.val (.int p1), .val (.int p2), .val (.int p3), .val (.int x1), .val (.int x2), .unset, .unset, .unset, .unset] []))
  refine Done.step (fun t k => XS.iloadN X0.here hx rfl (hb hby at_16) rfl k) ?_
  show Done p e below s _ _ _ (s₁.setTop (mkF m 17 #[.val (.int p1), .val (.int p2), .val (.int p3), .val (.int x1), .val (.int x2), .unset, .unset, .unset, .unset] [(.int x1)]))
  refine Done.step (fun t k => XS.iload X0.here hx rfl (hb hby at_17) rfl k) ?_
  show Done p e below s _ _ _ (s₁.setTop (mkF m 19 #[.val (.int p1), .val (.int p2), .val (.int p3), .val (.int x1), .val (.int x2), .unset, .unset, .unset, .unset] [(.int x2), (.int x1)]))
  refine Done.step (fun t k => XS.imul X0.here hx rfl (hb hby at_19) rfl k) ?_
  show Done p e below s _ _ _ (s₁.setTop (mkF m 20 #[.val (.int p1), .val (.int p2), .val (.int p3), .val (.int x1), .val (.int x2), .unset, .unset, .unset, .unset] [(.int (x1 * x2))]))
  generalize dx3 : (x1 * x2) = x3
  show Done p e below s _ _ _ (s₁.setTop (mkF m 20 #[.val (.int p1), .val (.int p2), .val (.int p3), .val (.int x1), .val (.int x2), .unset, .unset, .unset, .unset] [(.int x3)]))
  refine Done.step (fun t k => XS.istore X0.here hx rfl (hb hby at_20) rfl (l' := #[.val (.int p1), .val (.int p2), .val (.int p3), .val (.int x1), .val (.int x2), .val (.int x3), .unset, .unset, .unset]) rfl k) ?_
  show Done p e below s _ _ _ (s₁.setTop (mkF m 22 #[.val (.int p1), .val (.int p2), .val (.int p3), .val (.int x1), .val (.int x2), .val (.int x3), .unset, .unset, .unset] []))
  refine Done.step (fun t k => XS.iload X0.here hx rfl (hb hby at_22) rfl k) ?_
  show Done p e below s _ _ _ (s₁.setTop (mkF m 24 #[.val (.int p1), .val (.int p2), .val (.int p3), .val (.int x1), .val (.int x2), .val (.int x3), .unset, .unset, .unset] [(.int x3)]))
  obtain ⟨nn, hn5, hn1, hn2, hz5, hw1, hh1, hwh⟩ := own_dim p1 p2 x1 x2 x3 dx1 dx2 dx3
  have hcl : x3.toNatClampNeg = nn := by rw [Int32.toNatClampNeg]; omega
  obtain ⟨T4, h4, k4, X4, e4, E4, A4, B4, st4⟩ := newPE X0 hx hZ (hw _ (List.mem_of_getElem? (i := 1) rfl)) e0 (g := (mkF m 24 #[.val (.int p1), .val (.int p2), .val (.int p3), .val (.int x1), .val (.int x2), .val (.int x3), .unset, .unset, .unset] [(.int x3)])) rfl (hb hby at_24) rfl (by rw [Int32.lt_iff_toInt_lt]; show ¬ _ < (0 : Int); omega) (cap := 12) (by rw [hcl]; exact hn2) (by decide) (by decide) (by decide) (ad := "[Z") (by decide)
  obtain ⟨b4, gq4⟩ : ∃ z, z = h0.size := ⟨_, rfl⟩
  rw [← gq4] at A4 B4 st4
  have g_b4 : n0 ≤ b4 := Nat.le_trans Z0 (Nat.le_of_eq gq4.symm)
  have Z4 : n0 ≤ h4.size := Nat.le_trans Z0 E4.1
  have f5 : Ax Z h4 b4 .boolean (List.replicate nn (.int (0 : Int32))) := Ax.new (ty := .boolean) (i := nn) A4 hcl
  refine Done.step st4 ?_
  show Done p e below s _ _ _ (T4.setTop (mkF m 26 #[.val (.int p1), .val (.int p2), .val (.int p3), .val (.int x1), .val (.int x2), .val (.int x3), .unset, .unset, .unset] [(.ref b4)]))
  refine Done.step (fun t k => XS.astore X4.here hx rfl (hb hby at_26) rfl rfl (l' := #[.val (.int p1), .val (.int p2), .val (.int p3), .val (.int x1), .val (.int x2), .val (.int x3), .val (.ref b4), .unset, .unset]) rfl k) ?_
  show Done p e below s _ _ _ (T4.setTop (mkF m 28 #[.val (.int p1), .val (.int p2), .val (.int p3), .val (.int x1), .val (.int x2), .val (.int x3), .val (.ref b4), .unset, .unset] []))
  exact blk0 p1 p2 p3 x1 x2 x3 b4 nn X4 hx hZ hw hby hml hown hlk hret hnm N0 Z4 e4 (VL_zero p3 nn ▸ f5) B4 g_b4 hn5 hn1 hn2 hz5 hw1 hh1 hwh
set_option maxRecDepth 65536 in
set_option maxHeartbeats 40000000 in
theorem comes_1 {Post : Tables → Env → Array Value → State → Outcome → State → Prop} (hpost : ∀ tb e args s v u, (limb_1_1.after args s (.returned v) u = true ∧ limb_1_2.after args s (.returned v) u = true ∧ True) → FrameEnd s (.returned v) u (Jvm.fieldLocs frame_1_writes args s ++ Jvm.arrayLocs frame_1_arrays args s ++ Jvm.staticLocs frame_1_statics s) 16 128 → Post tb e args s (.returned v) u) :
    ArmFor flags0 classFile x code maxLocals ret World_1 tables_1 room_1 Calls_1 rest_1 Pre_1 Post := by
  intro l hfl _ _ p e ha hc hk s m args below hf hA hF happ hP
  obtain ⟨hcalls, hrest, hpre⟩ := hP
  obtain ⟨-, -, -, hnamed, -, -, -, hat⟩ := (Spec.applies_iff hf).mp happ
  obtain ⟨hg, hn⟩ := and_e (Cond.before_iff.mp (show (Jvm.Cond.and given_1 narrow_1).before args s = true from hpre))
  obtain ⟨hcnt, g0⟩ := and_e hg
  obtain ⟨u0, g1⟩ := and_e g0
  obtain ⟨u1, g2⟩ := and_e g1
  have u2 := g2
  obtain ⟨w0, w1, w2, rfl⟩ : ∃ w0 w1 w2 : Value, args = #[w0, w1, w2] := by
    have hs : args.size = 3 := by simpa [Cond.value, given_1] using hcnt
    obtain ⟨L⟩ := args
    match L, hs with
    | [w0, w1, w2], _ => exact ⟨w0, w1, w2, rfl⟩
  have hw := fun d (hd : d ∈ tables_1) => atoms_spec (ws := Jvm.Cond.code x code maxLocals ret :: tables_1) hat d (List.mem_cons_of_mem _ hd)
  have hfit : Fit s := fun {y c} hc i hi => by
    obtain ⟨ha, rfl⟩ := Array.getElem?_eq_some_iff.mp hc
    have q := List.all_eq_true.mp ((Array.all_eq_true_iff_forall_mem.mp hF) _ (Array.getElem_mem ha)) i (List.mem_range.mpr hi)
    simpa [Array.getElem?_eq_getElem hi] using q
  obtain ⟨i0, ei0⟩ := is_v u0
  obtain rfl : w0 = (.int i0) := Option.some.inj ei0
  obtain ⟨i1, ei1⟩ := is_v u1
  obtain rfl : w1 = (.int i1) := Option.some.inj ei1
  obtain ⟨i2, ei2⟩ := is_v u2
  obtain rfl : w2 = (.int i2) := Option.some.inj ei2
  obtain ⟨n, o, h1, h2, h3, _, L, rfl, ⟨rfl, N⟩, hq⟩ := rm0 l s _ hw tables_1 i0 i1 i2 s.heap s.heap.size (Nat.le_refl _) p e ha hc hk s m _ below hf ((Spec.applies_iff_loose hf).mp happ).1 ⟨rfl, State.Warmed39.refl s, rfl⟩ trivial
  refine ⟨n, _, h1, h2, h3, hpost _ _ _ _ _ _ ⟨Cond.after_iff.mpr rfl, Cond.after_iff.mpr (eq_i res_at (Term.int_eval (1)) rfl), trivial⟩ ⟨hq.1, hq.2.1, (hq.2.2.sift fun y hy => Or.inr (N y hy)).mono (by decide) (by decide)⟩⟩
theorem main_1_1 : Claimed_1_1 := comes_1 fun _ _ _ _ _ _ h hF => ⟨h.1, hF⟩
theorem main_1_2 : Claimed_1_2 := comes_1 fun _ _ _ _ _ _ h hF => ⟨h.2.1, hF⟩
end Jvm.Pilot.@@N@@
namespace Jvm.Pilot.@@N@@
open Jvm Jvm.ClassFile Sem Op Lib Jvm.Free Jvm.Stand Jvm.Pilot.@@N@@.Jvm.D
/-! MADE BY PROGRAM (witnessworld.py) out of the Statement's table words and the real class files: 11 classes; the members and pool entries that the words name. The judged class is class 1, her method 3. -/
namespace start1
open Jvm.ClassFile
def u (s : String) : CpInfo := .utf8 (stringToUtf16 s)
/-- a pool by its gaps: so many unusable entries, then the entry; so many at the end -/
def gap : Nat → List CpInfo → List CpInfo
  | 0, r => r
  | n + 1, r => .unusable :: gap n r
def poolList (es : List (Nat × CpInfo)) (last : Nat) : List CpInfo := es.foldr (fun e r => gap e.1 (e.2 :: r)) (gap last [])
def pool (es : List (Nat × CpInfo)) (last : Nat) : Array CpInfo := ⟨poolList es last⟩
def fileOf (pool : Array CpInfo) (this : Nat) (attrs : Array Attribute := #[]) (ms : Array MethodInfo := #[]) (fl : Nat := 33) (sup : Nat := 0) (ifs : Array Nat := #[]) (fds : Array FieldInfo := #[]) : ClassFile where
  minorVersion := 0
  majorVersion := 65
  constantPool := pool
  accessFlags := fl
  thisClass := this
  superClass := sup
  interfaces := ifs
  fields := fds
  methods := ms
  attributes := attrs
def plain (name : String) (sup : Option ClassId) : Class where
  name := name
  kind := .ordinary
  loader := none
  accessFlags := 33
  super := sup
  interfaces := #[]
  cf := none
  fields := #[]
  methods := #[]
  instanceTypes := #[]
  staticTypes := #[]
  resolved := #[]
  callSites := []
  init := .initialized
  statics := none
  mirror := none

def pool0 : Array CpInfo := pool [(5, u "<init>"), (0, u "()V"), (1, .class_ 10), (1, u "java/lang/Object"), (85, u "clone"), (0, u "()Ljava/lang/Object;")] 26

def k0c0 : Code := { maxStack := 0, maxLocals := 1, code := object_method_1_code, exceptionTable := #[], attributes := #[] }
def k0m0 : Method := { name := "<init>", desc := "()V", sig := { parameters := [], returnType := none }, accessFlags := 1, code := some k0c0 }
def k0m1 : Method := { name := "clone", desc := "()Ljava/lang/Object;", sig := { parameters := [], returnType := some (.object "java/lang/Object") }, accessFlags := 260, code := none }
/-- java/lang/Object -/
def k0 : Class := { plain "java/lang/Object" none with
  accessFlags := 33
  interfaces := #[]
  cf := some (fileOf pool0 8 #[] #[{ accessFlags := 1, nameIndex := 5, descriptorIndex := 6, attributes := #[] }, { accessFlags := 260, nameIndex := 96, descriptorIndex := 97, attributes := #[] }] 33 0 #[] #[])
  fields := #[]
  methods := #[k0m0, k0m1]
  instanceTypes := #[]
  staticTypes := #[]
  resolved := Array.replicate 124 none
  statics := none }

def pool1 : Array CpInfo := pool [(2, .class_ 4), (1, u "java/lang/Object"), (0, u "<init>"), (0, u "()V"), (0, .methodref 8 9), (0, .class_ 10), (0, .nameAndType 11 12), (0, u "com/example/wardsum/wardsum/model/GridMapFreeCellCountPinLaw"), (0, u "bit"), (0, u "(II)Z"), (0, .integer 2147483647), (0, .class_ 15), (0, u "com/example/wardsum/wardsum/model/GridMap"), (0, .methodref 14 17), (0, .nameAndType 5 18), (0, u "(II[Z)V"), (0, .methodref 8 20), (0, .nameAndType 21 22), (0, u "one"), (0, u "(III)I"), (0, .methodref 14 24), (0, .nameAndType 25 26), (0, u "freeCellCount"), (0, u "()I"), (3, u "law"), (0, u "(III)Z")] 4

def k1m0 : Method := { name := "<init>", desc := "()V", sig := { parameters := [], returnType := none }, accessFlags := 1, code := none }
def k1c1 : Code := { maxStack := 2, maxLocals := 2, code := method_2_code, exceptionTable := #[], attributes := #[] }
def k1m1 : Method := { name := "bit", desc := "(II)Z", sig := { parameters := [.int, .int], returnType := some .boolean }, accessFlags := 10, code := some k1c1 }
def k1c2 : Code := { maxStack := 2, maxLocals := 3, code := method_3_code, exceptionTable := #[], attributes := #[] }
def k1m2 : Method := { name := "one", desc := "(III)I", sig := { parameters := [.int, .int, .int], returnType := some .int }, accessFlags := 10, code := some k1c2 }
def k1c3 : Code := { maxStack := 5, maxLocals := 9, code := code, exceptionTable := #[], attributes := #[] }
def k1m3 : Method := { name := "law", desc := "(III)Z", sig := { parameters := [.int, .int, .int], returnType := some .boolean }, accessFlags := 9, code := some k1c3 }
/-- com/example/wardsum/wardsum/model/GridMapFreeCellCountPinLaw -/
def k1 : Class := { plain "com/example/wardsum/wardsum/model/GridMapFreeCellCountPinLaw" (some 0) with
  accessFlags := 49
  interfaces := #[]
  cf := some (fileOf pool1 8 #[] #[{ accessFlags := 1, nameIndex := 5, descriptorIndex := 6, attributes := #[] }, { accessFlags := 10, nameIndex := 11, descriptorIndex := 12, attributes := #[] }, { accessFlags := 10, nameIndex := 21, descriptorIndex := 22, attributes := #[] }, { accessFlags := 9, nameIndex := 30, descriptorIndex := 31, attributes := #[] }] 49 2 #[] #[])
  fields := #[]
  methods := #[k1m0, k1m1, k1m2, k1m3]
  instanceTypes := #[]
  staticTypes := #[]
  resolved := Array.replicate 36 none
  statics := none }

def pool2 : Array CpInfo := pool [(1, .methodref 2 3), (0, .class_ 4), (0, .nameAndType 5 6), (0, u "java/lang/Object"), (0, u "<init>"), (0, u "()V"), (9, .fieldref 17 18), (0, .class_ 19), (0, .nameAndType 20 21), (0, u "com/example/wardsum/wardsum/model/GridMap"), (0, u "width"), (0, u "I"), (0, .fieldref 17 23), (0, .nameAndType 24 21), (0, u "height"), (0, .methodref 26 27), (0, .class_ 28), (0, .nameAndType 29 30), (0, u "[Z"), (0, u "clone"), (0, u "()Ljava/lang/Object;"), (0, .fieldref 17 32), (0, .nameAndType 33 28), (0, u "free"), (5, u "()I"), (30, u "(II[Z)V"), (3, u "freeCellCount")] 25

def k2c0 : Code := { maxStack := 5, maxLocals := 4, code := prog_46_method_1_code, exceptionTable := #[], attributes := #[] }
def k2m0 : Method := { name := "<init>", desc := "(II[Z)V", sig := { parameters := [.int, .int, (.array .boolean)], returnType := none }, accessFlags := 1, code := some k2c0 }
def k2c1 : Code := { maxStack := 2, maxLocals := 6, code := prog_46_method_6_code, exceptionTable := #[], attributes := #[] }
def k2m1 : Method := { name := "freeCellCount", desc := "()I", sig := { parameters := [], returnType := some .int }, accessFlags := 1, code := some k2c1 }
/-- com/example/wardsum/wardsum/model/GridMap -/
def k2 : Class := { plain "com/example/wardsum/wardsum/model/GridMap" (some 0) with
  accessFlags := 49
  interfaces := #[]
  cf := some (fileOf pool2 17 #[] #[{ accessFlags := 1, nameIndex := 5, descriptorIndex := 70, attributes := #[] }, { accessFlags := 1, nameIndex := 74, descriptorIndex := 39, attributes := #[] }] 49 2 #[] #[{ accessFlags := 18, nameIndex := 20, descriptorIndex := 21, attributes := #[] }, { accessFlags := 18, nameIndex := 24, descriptorIndex := 21, attributes := #[] }, { accessFlags := 18, nameIndex := 33, descriptorIndex := 28, attributes := #[] }])
  fields := #[{ name := "width", type := .int, accessFlags := 18, slot := 0, constantValue := 0 }, { name := "height", type := .int, accessFlags := 18, slot := 1, constantValue := 0 }, { name := "free", type := (.array .boolean), accessFlags := 18, slot := 2, constantValue := 0 }]
  methods := #[k2m0, k2m1]
  instanceTypes := #[.int, .int, (.array .boolean)]
  staticTypes := #[]
  resolved := Array.replicate 100 none
  statics := none }

def pool3 : Array CpInfo := pool [(1, .class_ 2), (0, u "java/lang/Cloneable"), (0, .class_ 4), (0, u "java/lang/Object")] 2

/-- java/lang/Cloneable -/
def k3 : Class := { plain "java/lang/Cloneable" (some 0) with
  accessFlags := 1537
  interfaces := #[]
  cf := some (fileOf pool3 1 #[] #[] 1537 3 #[] #[])
  fields := #[]
  methods := #[]
  instanceTypes := #[]
  staticTypes := #[]
  resolved := Array.replicate 7 none
  statics := none }

def pool4 : Array CpInfo := pool [(1, u "java/io/Serializable"), (0, .class_ 1), (0, u "java/lang/Object"), (0, .class_ 3)] 3

/-- java/io/Serializable -/
def k4 : Class := { plain "java/io/Serializable" (some 0) with
  accessFlags := 1537
  interfaces := #[]
  cf := some (fileOf pool4 2 #[] #[] 1537 4 #[] #[])
  fields := #[]
  methods := #[]
  instanceTypes := #[]
  staticTypes := #[]
  resolved := Array.replicate 8 none
  statics := none }

/-- the primitive boolean -/
def k5 : Class := { plain "boolean" none with kind := .primitive 'Z', accessFlags := 0x411 }
/-- [Z -/
def k6 : Class := { plain "[Z" (some 0) with kind := .array 5 .boolean, interfaces := #[3, 4], accessFlags := 1041 }

/-- the primitive byte -/
def k7 : Class := { plain "byte" none with kind := .primitive 'B', accessFlags := 0x411 }
/-- [B -/
def k8 : Class := { plain "[B" (some 0) with kind := .array 7 .byte, interfaces := #[3, 4], accessFlags := 1041 }

/-- the primitive int -/
def k9 : Class := { plain "int" none with kind := .primitive 'I', accessFlags := 0x411 }
/-- [I -/
def k10 : Class := { plain "[I" (some 0) with kind := .array 9 .int, interfaces := #[3, 4], accessFlags := 1041 }

def heap : Heap := #[]
def classes : Array Class := #[k0, k1, k2, k3, k4, k5, k6, k7, k8, k9, k10]
def interned : List (Array UInt16 × Addr) := []
def slotsUsed : Nat := 0
def theMethod : MethodId := ⟨1, 3⟩
def args0 : Array Value := #[.int 3, .int 5, .int 7]
def aboutOver (below : List Frame) : State where
  vm := { classes := classes, interned := interned.toArray }
  heap := heap
  slotsUsed := slotsUsed
  threads := #[{ frames := .invoking theMethod args0 :: below }]
def below0 : List Frame := [.native { method := ⟨0, 0⟩, args := #[] }]
def about1 : State := aboutOver below0
def p0 : Program := .bare "" "" ""
def e0 : Env := launch0.env 0 0 0
theorem w_frames : about1.frames = Frame.invoking theMethod args0 :: below0 := rfl
set_option maxRecDepth 65536 in
theorem w_args : argsFit about1.vm theMethod args0 = true := by decide +kernel
set_option maxRecDepth 65536 in
theorem w_heap : heapFits about1 = true := by decide +kernel
set_option maxRecDepth 65536 in
theorem w_runnable : about1.curStatus? = some .runnable := by decide +kernel
set_option maxRecDepth 65536 in
theorem w_alone : about1.alone = true := by decide +kernel
set_option maxRecDepth 65536 in
theorem w_named : about1.methodNamed? x = some theMethod := by decide +kernel
set_option maxRecDepth 65536 in
theorem w_hears : about1.hears theMethod below0 = true := by decide +kernel
set_option maxRecDepth 65536 in
theorem w_ripe : about1.ripe theMethod args0 below0 = true := by decide +kernel
theorem w_running : about1.status = .running := rfl
set_option maxRecDepth 65536 in
theorem w_room : about1.hasRoom e0.platform room_1 = true :=
  launch0.hasRoom_least _ room_1 (by decide +kernel) (by decide +kernel) (by decide +kernel) (by decide +kernel) (by decide +kernel) (by decide +kernel)
theorem allAtoms_all (ts : List Jvm.Cond) (a : Array Jvm.Value) (st : Jvm.State) : (allAtoms ts).before a st = ts.all (fun c => c.before a st) := by
  induction ts with
  | nil => rfl
  | cons c t ih =>
    show (Jvm.Cond.and c (allAtoms t)).before a st = _
    rw [Jvm.Cond.before_and, ih, List.all_cons]
def words1 : List Jvm.Cond := Jvm.Cond.code x code maxLocals ret :: tables_1
/-- a 'code' word, met by the world's own term for the bytes: nothing is compared byte by byte -/
theorem code_word {y : MethodName} {bytes : ByteArray} {mx : Nat} {rt : Option FieldType} {a : Array Value} {s : State} {m : MethodId} {meth : Method} {c : Code} (h1 : s.methodNamed? y = some m) (h2 : s.vm.method? m = some meth) (h3 : meth.code = some c) (h4 : c.code = bytes)
    (h5 : (c.maxLocals == mx && c.exceptionTable.isEmpty && decide (c.maxStack ≤ mostOperands) && decide (meth.sig.returnType = rt) && !meth.locks && decide (parseMethodDescriptor y.desc = some meth.sig)) = true) : (Jvm.Cond.code y bytes mx rt).before a s = true := by
  simp only [Bool.and_eq_true, beq_iff_eq, Bool.not_eq_true', decide_eq_true_eq] at h5
  obtain ⟨⟨⟨⟨⟨g1, g2⟩, g3⟩, g4⟩, g5⟩, g6⟩ := h5
  simp [Cond.before, Cond.holds, Cond.value, h1, h2, h3, h4, g1, g2, g3, g4, g5, g6]
def isCode : Jvm.Cond → Bool
  | .code _ _ _ _ => true
  | _ => false
theorem all_split {L : List Jvm.Cond} {P : Jvm.Cond → Bool} (h1 : L.all (fun c => isCode c || P c) = true) (h2 : ∀ c ∈ L.filter isCode, P c = true) : L.all P = true := by
  refine List.all_eq_true.mpr fun c hc => ?_
  have h := List.all_eq_true.mp h1 c hc
  rcases Bool.eq_false_or_eq_true (isCode c) with hi | hi
  · exact h2 c (List.mem_filter.mpr ⟨hc, hi⟩)
  · simpa [hi] using h
set_option maxRecDepth 65536 in
theorem w_c0 : (Jvm.Cond.code x code maxLocals ret).before args0 about1 = true := code_word (m := ⟨1, 3⟩) (meth := k1m3) (c := k1c3) (by decide +kernel) rfl rfl rfl (by decide +kernel)
set_option maxRecDepth 65536 in
theorem w_c1 : (Jvm.Cond.code ({ cls := "com/example/wardsum/wardsum/model/GridMapFreeCellCountPinLaw", name := "bit", desc := "(II)Z" } : Jvm.MethodName) method_2_code (2 : Nat) (Option.some Jvm.ClassFile.FieldType.boolean)).before args0 about1 = true := code_word (m := ⟨1, 1⟩) (meth := k1m1) (c := k1c1) (by decide +kernel) rfl rfl rfl (by decide +kernel)
set_option maxRecDepth 65536 in
theorem w_c2 : (Jvm.Cond.code ({ cls := "com/example/wardsum/wardsum/model/GridMap", name := "<init>", desc := "(II[Z)V" } : Jvm.MethodName) prog_46_method_1_code (4 : Nat) (Option.none : Option Jvm.ClassFile.FieldType)).before args0 about1 = true := code_word (m := ⟨2, 0⟩) (meth := k2m0) (c := k2c0) (by decide +kernel) rfl rfl rfl (by decide +kernel)
set_option maxRecDepth 65536 in
theorem w_c3 : (Jvm.Cond.code ({ cls := "java/lang/Object", name := "<init>", desc := "()V" } : Jvm.MethodName) object_method_1_code (1 : Nat) (Option.none : Option Jvm.ClassFile.FieldType)).before args0 about1 = true := code_word (m := ⟨0, 0⟩) (meth := k0m0) (c := k0c0) (by decide +kernel) rfl rfl rfl (by decide +kernel)
set_option maxRecDepth 65536 in
theorem w_c4 : (Jvm.Cond.code ({ cls := "com/example/wardsum/wardsum/model/GridMapFreeCellCountPinLaw", name := "one", desc := "(III)I" } : Jvm.MethodName) method_3_code (3 : Nat) (Option.some Jvm.ClassFile.FieldType.int)).before args0 about1 = true := code_word (m := ⟨1, 2⟩) (meth := k1m2) (c := k1c2) (by decide +kernel) rfl rfl rfl (by decide +kernel)
set_option maxRecDepth 65536 in
theorem w_c5 : (Jvm.Cond.code ({ cls := "com/example/wardsum/wardsum/model/GridMap", name := "freeCellCount", desc := "()I" } : Jvm.MethodName) prog_46_method_6_code (6 : Nat) (Option.some Jvm.ClassFile.FieldType.int)).before args0 about1 = true := code_word (m := ⟨2, 1⟩) (meth := k2m1) (c := k2c1) (by decide +kernel) rfl rfl rfl (by decide +kernel)
def codes1 : List Jvm.Cond := [Jvm.Cond.code x code maxLocals ret, Jvm.Cond.code ({ cls := "com/example/wardsum/wardsum/model/GridMapFreeCellCountPinLaw", name := "bit", desc := "(II)Z" } : Jvm.MethodName) method_2_code (2 : Nat) (Option.some Jvm.ClassFile.FieldType.boolean), Jvm.Cond.code ({ cls := "com/example/wardsum/wardsum/model/GridMap", name := "<init>", desc := "(II[Z)V" } : Jvm.MethodName) prog_46_method_1_code (4 : Nat) (Option.none : Option Jvm.ClassFile.FieldType), Jvm.Cond.code ({ cls := "java/lang/Object", name := "<init>", desc := "()V" } : Jvm.MethodName) object_method_1_code (1 : Nat) (Option.none : Option Jvm.ClassFile.FieldType), Jvm.Cond.code ({ cls := "com/example/wardsum/wardsum/model/GridMapFreeCellCountPinLaw", name := "one", desc := "(III)I" } : Jvm.MethodName) method_3_code (3 : Nat) (Option.some Jvm.ClassFile.FieldType.int), Jvm.Cond.code ({ cls := "com/example/wardsum/wardsum/model/GridMap", name := "freeCellCount", desc := "()I" } : Jvm.MethodName) prog_46_method_6_code (6 : Nat) (Option.some Jvm.ClassFile.FieldType.int)]
set_option maxRecDepth 65536 in
theorem codes_eq : words1.filter isCode = codes1 := rfl
theorem w_codes : ∀ c ∈ words1.filter isCode, c.before args0 about1 = true := by
  rw [codes_eq]
  intro c hc
  simp only [codes1, List.mem_cons, List.not_mem_nil, or_false] at hc
  rcases hc with rfl | rfl | rfl | rfl | rfl | rfl
  · exact w_c0
  · exact w_c1
  · exact w_c2
  · exact w_c3
  · exact w_c4
  · exact w_c5
set_option maxRecDepth 65536 in
theorem w_t1 : (words1.take 24).all (fun c => isCode c || c.before args0 about1) = true := by decide +kernel
set_option maxRecDepth 65536 in
theorem w_t2 : (words1.drop 24).all (fun c => isCode c || c.before args0 about1) = true := by decide +kernel
theorem w_tables : (allAtoms (Jvm.Cond.code x code maxLocals ret :: tables_1)).before args0 about1 = true := by
  rw [allAtoms_all]
  show words1.all (fun c => c.before args0 about1) = true
  refine all_split ?_ w_codes
  rw [← List.take_append_drop 24 words1, List.all_append, w_t1, w_t2]
  rfl
set_option maxRecDepth 65536 in
theorem w_case : (Jvm.Cond.and given_1 narrow_1).before args0 about1 = true := by decide +kernel
theorem w_applies : (headSpec (Jvm.Cond.code x code maxLocals ret :: tables_1) room_1).applies x e0.platform about1 = true :=
  (Spec.applies_iff w_frames).mpr ⟨w_running, w_runnable, w_alone, w_named, w_hears, w_ripe, w_room, w_tables⟩
theorem atStart : AtStart classFile x code maxLocals ret World_1 tables_1 room_1 Calls_1 rest_1 Pre_1 launch0 p0 e0 about1 theMethod args0 below0 :=
  ⟨lists_1, trivial, launch0.admits_env _ _ _, launch0.least_env, fairChoices_fair.cas, fairChoices_fair.clock, w_frames, w_args, w_heap, w_applies, trivial, trivial, w_case⟩
end start1
theorem witness_1 : WitnessClaimed_1 := ⟨start1.p0, start1.e0, start1.about1, start1.theMethod, start1.args0, start1.below0, start1.atStart⟩
end Jvm.Pilot.@@N@@
