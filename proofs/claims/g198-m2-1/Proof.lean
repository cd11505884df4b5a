import JvmDerived
import JvmDerived.Pilot.@@N@@Statement
import JvmDerived.Pilot.@@N@@Code
set_option linter.unusedVariables false
set_option linter.unusedSimpArgs false
namespace Jvm.RoadKit
open Sem ClassFile Op Lib Jvm.Stand Jvm.Free Jvm.LawKit
section New
variable {p : Program} {l : Launch} {e : Env} {R : Room} {s : State} {m : MethodId} {args : Array Value} {below : List Frame} {meth : Method} {c : Code} {T : State} {locs : List Loc} {cells slots : Nat}
theorem retI (X : Stand p l e R s m args below meth c T locs cells slots) (hx : p.tables.exec = Jvm.exec) {pc : Nat} {Ls : Array Slot} {z : Int32} {rest : List Value} (hret : meth.sig.returnType = some .int) (hd : decode c.code pc = .ok (.ireturn, 1)) {fs : List Frame}
    (hl : ∀ (f : JFrame) (acts : List Action), f.method = m → f.locked = none → f.entered = [] → (doReturn e (T.setTop f) acts (some (.int z))).1 = T.setFrames fs) : Steps p.tables e below (T.setTop (mkF m pc Ls (.int z :: rest))) (T.setFrames fs) := by
  have hm' : T.vm.method? m = some meth := X.method'
  have hn : narrow .int (.int z) = .int z := rfl
  show Steps p.tables e below (T.setTop { method := m, pc := pc, locals := Ls, stack := _ :: rest, locked := none }) _
  jvm_step X.here [X.here.top, hx, hd, hm', hret, hn]
  first | (intro acts; rw [hl _ acts rfl rfl rfl]) | rw [hl _ _ rfl rfl rfl]
  exact Steps.refl _
end New
end Jvm.RoadKit
namespace Jvm.Pilot.@@N@@
open Jvm Jvm.ClassFile Sem Op Lib Jvm.Free Jvm.Stand Jvm.LawKit Jvm.RoadKit Bundle Jvm.Pilot.@@N@@.Jvm.D
section OwnKit
/-- the rest of a body ends well: from the state U on it comes to its end, what it returns and leaves is as Q says -/
def Done (p : Program) (e : Env) (below : List Frame) (s : State) (Q : Option Value → Heap → List Loc → Prop) (C S : Nat) (U : State) : Prop :=
  ∃ s₂ o, Steps p.tables e below U s₂ ∧ s₂.status = .running ∧ Ended s₂ below o ∧ ∃ v L, o = .returned v ∧ Q v s₂.heap L ∧ FrameEnd s o s₂ L C S
variable {p : Program} {l : Launch} {e : Env} {R : Room} {s : State} {m : MethodId} {args : Array Value} {below : List Frame} {meth : Method} {c : Code} {T U U' : State} {locs : List Loc} {cells slots C S : Nat} {Q : Option Value → Heap → List Loc → Prop}
theorem Done.step (h : ∀ t, Steps p.tables e below U' t → Steps p.tables e below U t) (d : Done p e below s Q C S U') : Done p e below s Q C S U := by
  obtain ⟨s₂, o, h1, r⟩ := d
  exact ⟨s₂, o, h _ h1, r⟩
theorem Done.far (h : Steps p.tables e below U U') (d : Done p e below s Q C S U') : Done p e below s Q C S U := by
  obtain ⟨s₂, o, h1, r⟩ := d
  exact ⟨s₂, o, h.trans h1, r⟩
theorem Done.mono {Q' : Option Value → Heap → List Loc → Prop} (d : Done p e below s Q C S U) (h : ∀ v h L, Q v h L → Q' v h L) : Done p e below s Q' C S U := by
  obtain ⟨s₂, o, h1, h2, h3, v, L, h4, h5, h6⟩ := d
  exact ⟨s₂, o, h1, h2, h3, v, L, h4, h _ _ _ h5, h6⟩
theorem Done.int (X : Stand p l e R s m args below meth c T locs cells slots) (hx : p.tables.exec = Jvm.exec) (hlk : meth.locks = false) (hret : meth.sig.returnType = some .int) {pc : Nat} {Ls : Array Slot} {z : Int32} {rest : List Value} (hd : decode c.code pc = .ok (.ireturn, 1)) (hc : cells ≤ C) (hs : slots ≤ S)
    (hq : Q (some (.int z)) T.heap locs) : Done p e below s Q C S (T.setTop (mkF m pc Ls (.int z :: rest))) := by
  obtain ⟨fs, hr, hrun, hended, hW, hsame⟩ := X.leave (v := some (.int z)) (fun h => by rw [hret] at h; cases h)
  exact ⟨_, _, retI X hx hret hd hr, hrun, hended, _, _, rfl, hq, ⟨_, rfl⟩, hW, hsame.mono hc hs⟩
theorem Done.narr (X : Stand p l e R s m args below meth c T locs cells slots) (hx : p.tables.exec = Jvm.exec) (hlk : meth.locks = false) {t : FieldType} (hret : meth.sig.returnType = some t) (ht : t = .boolean ∨ t = .byte ∨ t = .char ∨ t = .short) {pc : Nat} {Ls : Array Slot} {z : Int32} {rest : List Value} (hd : decode c.code pc = .ok (.ireturn, 1)) (hc : cells ≤ C) (hs : slots ≤ S)
    (hq : Q (some (.int (nar t z))) T.heap locs) : Done p e below s Q C S (T.setTop (mkF m pc Ls (.int z :: rest))) := by
  obtain ⟨fs, hr, hrun, hended, hW, hsame⟩ := X.leave (v := some (.int (nar t z))) (fun h => by rw [hret] at h; cases h)
  exact ⟨_, _, retN X hx hret ht hd hr, hrun, hended, _, _, rfl, hq, ⟨_, rfl⟩, hW, hsame.mono hc hs⟩
theorem Done.long (X : Stand p l e R s m args below meth c T locs cells slots) (hx : p.tables.exec = Jvm.exec) (hlk : meth.locks = false) (hret : meth.sig.returnType = some .long) {pc : Nat} {Ls : Array Slot} {z : Int64} {rest : List Value} (hd : decode c.code pc = .ok (.lreturn, 1)) (hc : cells ≤ C) (hs : slots ≤ S)
    (hq : Q (some (.long z)) T.heap locs) : Done p e below s Q C S (T.setTop (mkF m pc Ls (.long z :: rest))) := by
  obtain ⟨fs, hr, hrun, hended, hW, hsame⟩ := X.leave (v := some (.long z)) (fun h => by rw [hret] at h; cases h)
  exact ⟨_, _, retOut X hx hret rfl (Or.inr (Or.inl ⟨rfl, rfl, z, rfl⟩)) hd hr, hrun, hended, _, _, rfl, hq, ⟨_, rfl⟩, hW, hsame.mono hc hs⟩
theorem Done.ref (X : Stand p l e R s m args below meth c T locs cells slots) (hx : p.tables.exec = Jvm.exec) (hlk : meth.locks = false) {t : FieldType} (hret : meth.sig.returnType = some t) (ht : t.isReference = true) {pc : Nat} {Ls : Array Slot} {w : Value} {rest : List Value} (hw : w.isRef = true) (hn : narrow t w = w) (hd : decode c.code pc = .ok (.areturn, 1)) (hc : cells ≤ C) (hs : slots ≤ S)
    (hq : Q (some w) T.heap locs) : Done p e below s Q C S (T.setTop (mkF m pc Ls (w :: rest))) := by
  obtain ⟨fs, hr, hrun, hended, hW, hsame⟩ := X.leave (v := some w) (fun h => by rw [hret] at h; cases h)
  exact ⟨_, _, retOut X hx hret hn (Or.inr (Or.inr (Or.inr (Or.inr ⟨rfl, ht, hw⟩)))) hd hr, hrun, hended, _, _, rfl, hq, ⟨_, rfl⟩, hW, hsame.mono hc hs⟩
theorem Done.void (X : Stand p l e R s m args below meth c T locs cells slots) (hx : p.tables.exec = Jvm.exec) (hlk : meth.locks = false) (hret : meth.sig.returnType = none) {pc : Nat} {Ls : Array Slot} (hd : decode c.code pc = .ok (.return_, 1)) (hc : cells ≤ C) (hs : slots ≤ S)
    (hq : Q none T.heap locs) : Done p e below s Q C S (T.setTop (mkF m pc Ls [])) := by
  obtain ⟨fs, hr, hrun, hended, hW, hsame⟩ := X.leave (v := none) (fun _ => rfl)
  exact ⟨_, _, X.returnOut hx hret hd hr, hrun, hended, _, _, rfl, hq, ⟨_, rfl⟩, hW, hsame.mono hc hs⟩
variable {Z : State} {h h' h0 : Heap} {a b : Addr} {ty : FieldType} {vs : List Value} {sl : Nat} {v x : Value} {ws : List Addr} {j : Int32} {g : JFrame} {rest : List Value}
/-- an array whose slots are just the list vs -/
def Ax (Z : State) (h : Heap) (a : Addr) (ty : FieldType) (vs : List Value) : Prop := ∃ c : Cell, Arr Z h a c ty ∧ c.slots = vs.toArray
theorem Ax.lt (F : Ax Z h a ty vs) : a < h.size := by obtain ⟨c, A, -⟩ := F; exact A.lt
theorem Ax.ext (F : Ax Z h a ty vs) (E : Ext h h') : Ax Z h' a ty vs := by obtain ⟨c, A, r⟩ := F; exact ⟨c, A.ext E, r⟩
theorem Ax.other (F : Ax Z h b ty vs) (W : Wr h h' a sl v) (q : b ≠ a) : Ax Z h' b ty vs := by obtain ⟨c, A, r⟩ := F; exact ⟨c, A.other W q, r⟩
theorem Ax.keep (F : Ax Z h a ty vs) (K : Keep h h' ws) (q : a ∉ ws) : Ax Z h' a ty vs := by obtain ⟨c, A, r⟩ := F; exact ⟨c, ⟨K.2.1 a c A.1 q, A.2⟩, r⟩
theorem own_stakeep {C n d : String} (F : Sta Z h C n d v) (K : Keep h h' ws) (q : ∀ y ∈ ws, ∃ cell : Cell, h[y]? = some cell ∧ cell.vm.isStatics = false) : Sta Z h' C n d v := by
  obtain ⟨cf, i, k, f, st, cell, h1, h2, h3, h4, h5, h6, h7⟩ := F
  refine ⟨cf, i, k, f, st, cell, h1, h2, h3, h4, K.2.1 st cell h5 (fun z => ?_), h6, h7⟩
  obtain ⟨c', g1, g2⟩ := q st z
  cases h5.symm.trans g1; rw [g2] at h6; cases h6
theorem own_unst {C : String} (F : Exa Z h a C) : ∃ cell : Cell, h[a]? = some cell ∧ cell.vm.isStatics = false := by
  obtain ⟨cell, k, h1, -, -, h4, -⟩ := F; exact ⟨cell, h1, h4⟩
theorem fld_long {t : Term} {D n d : String} {k : Int64} {y : Addr} {av : Array Value} (hh : (Jvm.Cond.eq (Term.field t D n d) (Term.long k)).value av Z none Z [] = some true) (ht : t.eval av Z none [] Z = some (.ref y)) : Fld Z Z.heap y D n d (.long k) := by
  obtain ⟨u, w, e1, e2, k1, k2⟩ := cmp_v (Or.inl hh)
  have e3 : (Term.long k).eval av Z none [] Z = some (.long k) := rfl
  rw [e3] at e2; cases e2
  obtain ⟨z, rfl⟩ := k2
  have q := gotT (eq_L e1 e3) hh
  subst q
  rw [fld_at ht] at e1
  exact Fld.start e1
theorem fld_int {t : Term} {D n d : String} {k : Int32} {y : Addr} {av : Array Value} (hh : (Jvm.Cond.eq (Term.field t D n d) (Term.int k)).value av Z none Z [] = some true) (ht : t.eval av Z none [] Z = some (.ref y)) : Fld Z Z.heap y D n d (.int k) := by
  obtain ⟨u, w, e1, e2, k1, k2⟩ := cmp_v (Or.inl hh)
  have e3 : (Term.int k).eval av Z none [] Z = some (.int k) := rfl
  rw [e3] at e2; cases e2
  obtain ⟨z, rfl⟩ := k2
  have q : z = k := by simpa [Jvm.Cond.value, e1, e3] using hh
  subst q
  rw [fld_at ht] at e1
  exact Fld.start e1
theorem Ax.set (F : Ax Z h a ty vs) (W : Wr h h' a sl v) : Ax Z h' a ty (vs.set sl v) := by
  obtain ⟨c, A, r⟩ := F
  exact ⟨_, A.same W, by rw [show (c.setSlot sl v).slots = c.slots.setIfInBounds sl v from rfl, r, List.setIfInBounds_toArray]⟩
theorem Ax.new {k : ClassId} {n : Int32} {i : Nat} (A : Arr Z h a (newA k ty n) ty) (hi : n.toNatClampNeg = i) : Ax Z h a ty (List.replicate i (defaultValue ty)) :=
  ⟨_, A, by rw [show (newA k ty n).slots = Array.replicate n.toNatClampNeg (defaultValue ty) from rfl, hi, List.toArray_replicate]⟩
theorem Ax.size {c : Cell} (r : c.slots = vs.toArray) : c.slots.size = vs.length := by rw [r, List.size_toArray]
theorem Ax.inb {c : Cell} (r : c.slots = vs.toArray) (hj : ¬ j < 0) (hl : j.toNatClampNeg < vs.length) : ¬ (j < 0 ∨ c.slots.size ≤ j.toNatClampNeg) := fun q => q.elim hj fun u => by
  rw [Ax.size r] at u; exact absurd hl (Nat.not_lt.mpr u)
theorem Ax.get {c : Cell} (r : c.slots = vs.toArray) (hat : vs[j.toNatClampNeg]? = some x) : c.slots[j.toNatClampNeg]? = some x := by rw [r, List.getElem?_toArray]; exact hat
theorem Ax.lens (hat : vs[j.toNatClampNeg]? = some x) : j.toNatClampNeg < vs.length := (List.getElem?_eq_some_iff.mp hat).1
theorem ldI (X : Stand p l e R s m args below meth c T locs cells slots) (hx : p.tables.exec = Jvm.exec) (hZ : Z.Warmed39 s.vm) (eT : T.heap = h) (F : Ax Z h a .int vs) (hj : ¬ j < 0) (hat : vs[j.toNatClampNeg]? = some x) (hg : g.method = m) (hs : g.stack = .int j :: .ref a :: rest) (hd : decode c.code g.pc = .ok (.iaload, 1)) :
    ∀ target, Steps p.tables e below (T.setTop { g with pc := g.pc + 1, stack := x :: rest }) target → Steps p.tables e below (T.setTop g) target := by
  obtain ⟨cl, A, r⟩ := F
  exact X.iaload hx (by rw [eT]; exact A.1) (State.isArrayOf_alike hZ.alike A.2.1) A.2.2 (Ax.inb r hj (Ax.lens hat)) (Ax.get r hat) hg hs hd
theorem ldJ (X : Stand p l e R s m args below meth c T locs cells slots) (hx : p.tables.exec = Jvm.exec) (hZ : Z.Warmed39 s.vm) (eT : T.heap = h) (F : Ax Z h a .long vs) (hj : ¬ j < 0) (hat : vs[j.toNatClampNeg]? = some x) (hg : g.method = m) (hs : g.stack = .int j :: .ref a :: rest) (hd : decode c.code g.pc = .ok (.laload, 1)) :
    ∀ target, Steps p.tables e below (T.setTop { g with pc := g.pc + 1, stack := x :: rest }) target → Steps p.tables e below (T.setTop g) target := by
  obtain ⟨cl, A, r⟩ := F
  exact X.laload hx (by rw [eT]; exact A.1) (State.isArrayOf_alike hZ.alike A.2.1) A.2.2 (Ax.inb r hj (Ax.lens hat)) (Ax.get r hat) hg hs hd
theorem ldB (X : Stand p l e R s m args below meth c T locs cells slots) (hx : p.tables.exec = Jvm.exec) (hZ : Z.Warmed39 s.vm) (eT : T.heap = h) (F : Ax Z h a .byte vs) (hj : ¬ j < 0) (hat : vs[j.toNatClampNeg]? = some x) (hg : g.method = m) (hs : g.stack = .int j :: .ref a :: rest) (hd : decode c.code g.pc = .ok (.baload, 1)) :
    ∀ target, Steps p.tables e below (T.setTop { g with pc := g.pc + 1, stack := x :: rest }) target → Steps p.tables e below (T.setTop g) target := by
  obtain ⟨cl, A, r⟩ := F
  exact X.baloadBytes hx (by rw [eT]; exact A.1) (State.isArrayOf_alike hZ.alike A.2.1) A.2.2 (Ax.inb r hj (Ax.lens hat)) (Ax.get r hat) hg hs hd
theorem ldZ (X : Stand p l e R s m args below meth c T locs cells slots) (hx : p.tables.exec = Jvm.exec) (hZ : Z.Warmed39 s.vm) (eT : T.heap = h) (F : Ax Z h a .boolean vs) (hj : ¬ j < 0) (hat : vs[j.toNatClampNeg]? = some x) (hg : g.method = m) (hs : g.stack = .int j :: .ref a :: rest) (hd : decode c.code g.pc = .ok (.baload, 1)) :
    ∀ target, Steps p.tables e below (T.setTop { g with pc := g.pc + 1, stack := x :: rest }) target → Steps p.tables e below (T.setTop g) target := by
  obtain ⟨cl, A, r⟩ := F
  exact X.baloadBooleans hx (by rw [eT]; exact A.1) (State.isArrayOf_alike hZ.alike A.2.1) A.2.2 (Ax.inb r hj (Ax.lens hat)) (Ax.get r hat) hg hs hd
theorem lenA (X : Stand p l e R s m args below meth c T locs cells slots) (hx : p.tables.exec = Jvm.exec) (hZ : Z.Warmed39 s.vm) (eT : T.heap = h) (F : Ax Z h a ty vs) {n : Int32} (hn : vs.length.toInt32 = n) (hg : g.method = m) (hs : g.stack = .ref a :: rest) (hd : decode c.code g.pc = .ok (.arraylength, 1)) :
    ∀ target, Steps p.tables e below (T.setTop { g with pc := g.pc + 1, stack := .int n :: rest }) target → Steps p.tables e below (T.setTop g) target := by
  obtain ⟨cl, A, r⟩ := F
  intro target k
  refine X.arraylength hx (by rw [eT]; exact A.1) (State.isArrayOf_alike hZ.alike A.2.1) hg hs hd target ?_
  rw [Ax.size r, hn]; exact k
theorem stoI (X : Stand p l e R s m args below meth c T locs cells slots) (hx : p.tables.exec = Jvm.exec) (hZ : Z.Warmed39 s.vm) (eT : T.heap = h) (F : Ax Z h a .int vs) {y : Int32} (hj : ¬ j < 0) {i : Nat} (hi : j.toNatClampNeg = i) (hl : i < vs.length) (hg : g.method = m) (hs : g.stack = .int y :: .int j :: .ref a :: rest) (hd : decode c.code g.pc = .ok (.iastore, 1)) :
    ∃ T' h', Stand p l e R s m args below meth c T' (locs ++ [⟨a, j.toNatClampNeg⟩]) cells slots ∧ T'.heap = h' ∧ Wr h h' a j.toNatClampNeg (.int y) ∧ Ax Z h' a .int (vs.set i (.int y)) ∧ ∀ target, Steps p.tables e below (T'.setTop { g with pc := g.pc + 1, stack := rest }) target → Steps p.tables e below (T.setTop g) target := by
  obtain ⟨cl, A, r⟩ := F
  obtain ⟨T', h', X', e', W, st⟩ := stI X hx hZ eT A (Ax.inb r hj (by rw [hi]; exact hl)) hg hs hd
  exact ⟨T', h', X', e', W, hi ▸ Ax.set ⟨cl, A, r⟩ W, st⟩
theorem stoJ (X : Stand p l e R s m args below meth c T locs cells slots) (hx : p.tables.exec = Jvm.exec) (hZ : Z.Warmed39 s.vm) (eT : T.heap = h) (F : Ax Z h a .long vs) {y : Int64} (hj : ¬ j < 0) {i : Nat} (hi : j.toNatClampNeg = i) (hl : i < vs.length) (hg : g.method = m) (hs : g.stack = .long y :: .int j :: .ref a :: rest) (hd : decode c.code g.pc = .ok (.lastore, 1)) :
    ∃ T' h', Stand p l e R s m args below meth c T' (locs ++ [⟨a, j.toNatClampNeg⟩]) cells slots ∧ T'.heap = h' ∧ Wr h h' a j.toNatClampNeg (.long y) ∧ Ax Z h' a .long (vs.set i (.long y)) ∧ ∀ target, Steps p.tables e below (T'.setTop { g with pc := g.pc + 1, stack := rest }) target → Steps p.tables e below (T.setTop g) target := by
  obtain ⟨cl, A, r⟩ := F
  obtain ⟨T', h', X', e', W, st⟩ := stJ X hx hZ eT A (Ax.inb r hj (by rw [hi]; exact hl)) hg hs hd
  exact ⟨T', h', X', e', W, hi ▸ Ax.set ⟨cl, A, r⟩ W, st⟩
theorem stoB (X : Stand p l e R s m args below meth c T locs cells slots) (hx : p.tables.exec = Jvm.exec) (hZ : Z.Warmed39 s.vm) (eT : T.heap = h) (F : Ax Z h a .byte vs) {y : Int32} (hj : ¬ j < 0) {i : Nat} (hi : j.toNatClampNeg = i) (hl : i < vs.length) (hg : g.method = m) (hs : g.stack = .int y :: .int j :: .ref a :: rest) (hd : decode c.code g.pc = .ok (.bastore, 1)) :
    ∃ T' h', Stand p l e R s m args below meth c T' (locs ++ [⟨a, j.toNatClampNeg⟩]) cells slots ∧ T'.heap = h' ∧ Wr h h' a j.toNatClampNeg (.int (nar .byte y)) ∧ Ax Z h' a .byte (vs.set i (.int (nar .byte y))) ∧ ∀ target, Steps p.tables e below (T'.setTop { g with pc := g.pc + 1, stack := rest }) target → Steps p.tables e below (T.setTop g) target := by
  obtain ⟨cl, A, r⟩ := F
  obtain ⟨T', h', X', e', W, st⟩ := stB X hx hZ eT A (Ax.inb r hj (by rw [hi]; exact hl)) hg hs hd
  exact ⟨T', h', X', e', W, hi ▸ Ax.set ⟨cl, A, r⟩ W, st⟩
theorem stoZ (X : Stand p l e R s m args below meth c T locs cells slots) (hx : p.tables.exec = Jvm.exec) (hZ : Z.Warmed39 s.vm) (eT : T.heap = h) (F : Ax Z h a .boolean vs) {y : Int32} (hj : ¬ j < 0) {i : Nat} (hi : j.toNatClampNeg = i) (hl : i < vs.length) (hg : g.method = m) (hs : g.stack = .int y :: .int j :: .ref a :: rest) (hd : decode c.code g.pc = .ok (.bastore, 1)) :
    ∃ T' h', Stand p l e R s m args below meth c T' (locs ++ [⟨a, j.toNatClampNeg⟩]) cells slots ∧ T'.heap = h' ∧ Wr h h' a j.toNatClampNeg (.int (nar .boolean y)) ∧ Ax Z h' a .boolean (vs.set i (.int (nar .boolean y))) ∧ ∀ target, Steps p.tables e below (T'.setTop { g with pc := g.pc + 1, stack := rest }) target → Steps p.tables e below (T.setTop g) target := by
  obtain ⟨cl, A, r⟩ := F
  obtain ⟨T', h', X', e', W, st⟩ := stZ X hx hZ eT A (Ax.inb r hj (by rw [hi]; exact hl)) hg hs hd
  exact ⟨T', h', X', e', W, hi ▸ Ax.set ⟨cl, A, r⟩ W, st⟩
theorem cloX (X : Stand p l e R s m args below meth c T locs cells slots) (hx : p.tables.exec = Jvm.exec) (hZ : Z.Warmed39 s.vm) {a0 : Array Value} {own ad : String} {index : Nat} (hown : s.vm.findClass own = some m.cls)
    (w1 : (Cond.methodLink own index ⟨ad, "clone", "()Ljava/lang/Object;"⟩).before a0 Z = true) (w2 : (Cond.sameMethod ad "java/lang/Object" "clone" "()Ljava/lang/Object;").before a0 Z = true) (w3 : (Cond.native ⟨"java/lang/Object", "clone", "()Ljava/lang/Object;"⟩).before a0 Z = true)
    (w4 : (Cond.instanceMethod ⟨"java/lang/Object", "clone", "()Ljava/lang/Object;"⟩).before a0 Z = true) (w5 : (Cond.selects ad ⟨ad, "clone", "()Ljava/lang/Object;"⟩ ⟨"java/lang/Object", "clone", "()Ljava/lang/Object;"⟩).before a0 Z = true) (w6 : (Cond.castable ad "java/lang/Cloneable").before a0 Z = true)
    (eT : T.heap = h) (F : Ax Z h a ty vs) (E : Exa Z h a ad) (G : ∀ v ∈ vs, fits ty v = true) (hg : g.method = m) (hsize : g.locals.size = c.maxLocals) (hs : g.stack = .ref a :: rest) (hd : decode c.code g.pc = .ok (.invokevirtual index, 3))
    (hf : 1 ≤ R.frames) {W cap : Nat} (hW : 2 * g.monitorRoom + (rest.map fun v => v.category).sum ≤ W) (hl : W + 14 ≤ R.locals) (hcap : vs.length ≤ cap) (hc : cells + 1 ≤ R.cells) (hsl : slots + cap ≤ R.slots) :
    ∃ T' h', Stand p l e R s m args below meth c T' locs (cells + 1) (slots + cap) ∧ T'.heap = h' ∧ Ext h h' ∧ Ax Z h' h.size ty vs ∧ Exa Z h' h.size ad ∧
      ∀ target, Steps p.tables e below (T'.setTop { g with pc := g.pc + 3, stack := .ref h.size :: rest }) target → Steps p.tables e below (T.setTop g) target := by
  obtain ⟨cl, A, r⟩ := F
  have FC : FitC Z cl := fitC_of A fun i hi v hv => by
    rw [r, List.getElem?_toArray] at hv
    exact G v (List.mem_of_getElem? hv)
  obtain ⟨T', h', X', e', ex, A', E', st⟩ := cloneA X hx hZ hown w1 w2 w3 w4 w5 w6 eT A E FC hg hsize hs hd hf hW hl (by rw [Ax.size r]; exact hcap) hc hsl
  exact ⟨T', h', X', e', ex, ⟨cloneOf cl, A', r⟩, E', st⟩
end OwnKit
theorem pd_0 : parseMethodDescriptor "([D)D" = some ⟨[(.array .double)], some .double⟩ := by decide +kernel
theorem Done.double {p : Program} {l : Launch} {e : Env} {R : Room} {s : State} {m : MethodId} {args : Array Value} {below : List Frame} {meth : Method} {c : Code} {T : State} {locs : List Loc} {cells slots C S : Nat} {Q : Option Value → Heap → List Loc → Prop}
    (X : Stand p l e R s m args below meth c T locs cells slots) (hx : p.tables.exec = Jvm.exec) (hlk : meth.locks = false) (hret : meth.sig.returnType = some .double) {pc : Nat} {Ls : Array Slot} {z : UInt64} {rest : List Value} (hd : decode c.code pc = .ok (.dreturn, 1)) (hc : cells ≤ C) (hs : slots ≤ S)
    (hq : Q (some (.double z)) T.heap locs) : Done p e below s Q C S (T.setTop (mkF m pc Ls (.double z :: rest))) := by
  obtain ⟨fs, hr, hrun, hended, hW, hsame⟩ := X.leave (v := some (.double z)) (fun h => by rw [hret] at h; cases h)
  exact ⟨_, _, retOut X hx hret rfl (Or.inr (Or.inr (Or.inl ⟨rfl, rfl, z, rfl⟩))) hd hr, hrun, hended, _, _, rfl, hq, ⟨_, rfl⟩, hW, hsame.mono hc hs⟩
theorem ldD {p : Program} {l : Launch} {e : Env} {R : Room} {s : State} {m : MethodId} {args : Array Value} {below : List Frame} {meth : Method} {c : Code} {T : State} {locs : List Loc} {cells slots : Nat} {Z : State} {h : Heap} {a : Addr} {vs : List Value} {x : Value} {j : Int32} {g : JFrame} {rest : List Value}
    (X : Stand p l e R s m args below meth c T locs cells slots) (hx : p.tables.exec = Jvm.exec) (hZ : Z.Warmed39 s.vm) (eT : T.heap = h) (F : Ax Z h a .double vs) (hj : ¬ j < 0) (hat : vs[j.toNatClampNeg]? = some x) (hg : g.method = m) (hs : g.stack = .int j :: .ref a :: rest) (hd : decode c.code g.pc = .ok (.daload, 1)) :
    ∀ target, Steps p.tables e below (T.setTop { g with pc := g.pc + 1, stack := x :: rest }) target → Steps p.tables e below (T.setTop g) target := by
  obtain ⟨cl, A, r⟩ := F
  exact X.daload hx (by rw [eT]; exact A.1) (State.isArrayOf_alike hZ.alike A.2.1) A.2.2 (Ax.inb r hj (Ax.lens hat)) (Ax.get r hat) hg hs hd
theorem stoD {p : Program} {l : Launch} {e : Env} {R : Room} {s : State} {m : MethodId} {args : Array Value} {below : List Frame} {meth : Method} {c : Code} {T : State} {locs : List Loc} {cells slots : Nat} {Z : State} {h : Heap} {a : Addr} {vs : List Value} {j : Int32} {g : JFrame} {rest : List Value}
    (X : Stand p l e R s m args below meth c T locs cells slots) (hx : p.tables.exec = Jvm.exec) (hZ : Z.Warmed39 s.vm) (eT : T.heap = h) (F : Ax Z h a .double vs) {y : UInt64} (hj : ¬ j < 0) {i : Nat} (hi : j.toNatClampNeg = i) (hl : i < vs.length) (hg : g.method = m) (hs : g.stack = .double y :: .int j :: .ref a :: rest) (hd : decode c.code g.pc = .ok (.dastore, 1)) :
    ∃ T' h', Stand p l e R s m args below meth c T' (locs ++ [⟨a, j.toNatClampNeg⟩]) cells slots ∧ T'.heap = h' ∧ Wr h h' a j.toNatClampNeg (.double y) ∧ Ax Z h' a .double (vs.set i (.double y)) ∧ ∀ target, Steps p.tables e below (T'.setTop { g with pc := g.pc + 1, stack := rest }) target → Steps p.tables e below (T.setTop g) target := by
  obtain ⟨cl, A, r⟩ := F
  obtain ⟨T', h', X', e', W, st⟩ := stD X hx hZ eT A (Ax.inb r hj (by rw [hi]; exact hl)) hg hs hd
  exact ⟨T', h', X', e', W, hi ▸ Ax.set ⟨cl, A, r⟩ W, st⟩
theorem own_z : Jvm.Free.Fl.NoNaN64 FP.dconst0 := by unfold Jvm.Free.Fl.NoNaN64; decide +kernel
theorem own_n {p x : Int32} (h : ((p &&& (2147483647 : Int32)) % (5 : Int32)) = x) : x = (0 : Int32) ∨ x = (1 : Int32) ∨ x = (2 : Int32) ∨ x = (3 : Int32) ∨ x = (4 : Int32) := by
  have m := c_mask p (2147483647 : Int32) 31 (by decide) (by decide)
  have r := (c_irem (p &&& (2147483647 : Int32)) (5 : Int32) 5 (by decide)).1 (by omega)
  rw [h] at r
  have q : x.toInt = 0 ∨ x.toInt = 1 ∨ x.toInt = 2 ∨ x.toInt = 3 ∨ x.toInt = 4 := by omega
  rcases q with q | q | q | q | q
  · exact Or.inl (Int32.toInt_inj.mp q)
  · exact Or.inr (Or.inl (Int32.toInt_inj.mp q))
  · exact Or.inr (Or.inr (Or.inl (Int32.toInt_inj.mp q)))
  · exact Or.inr (Or.inr (Or.inr (Or.inl (Int32.toInt_inj.mp q))))
  · exact Or.inr (Or.inr (Or.inr (Or.inr (Int32.toInt_inj.mp q))))
theorem d1_0 : decode prog_17_method_5_code 0 = .ok (.dconst 0, 1) := by decide +kernel
theorem d1_1 : decode prog_17_method_5_code 1 = .ok (.dstore_n 1, 1) := by decide +kernel
theorem d1_2 : decode prog_17_method_5_code 2 = .ok (.aload_n 0, 1) := by decide +kernel
theorem d1_3 : decode prog_17_method_5_code 3 = .ok (.astore_n 3, 1) := by decide +kernel
theorem d1_4 : decode prog_17_method_5_code 4 = .ok (.aload_n 3, 1) := by decide +kernel
theorem d1_5 : decode prog_17_method_5_code 5 = .ok (.arraylength, 1) := by decide +kernel
theorem d1_6 : decode prog_17_method_5_code 6 = .ok (.istore 4, 2) := by decide +kernel
theorem d1_8 : decode prog_17_method_5_code 8 = .ok (.iconst 0, 1) := by decide +kernel
theorem d1_9 : decode prog_17_method_5_code 9 = .ok (.istore 5, 2) := by decide +kernel
theorem d1_11 : decode prog_17_method_5_code 11 = .ok (.iload 5, 2) := by decide +kernel
theorem d1_13 : decode prog_17_method_5_code 13 = .ok (.iload 4, 2) := by decide +kernel
theorem d1_15 : decode prog_17_method_5_code 15 = .ok (.if_icmp .ge 20, 3) := by decide +kernel
theorem d1_35 : decode prog_17_method_5_code 35 = .ok (.dload_n 1, 1) := by decide +kernel
theorem d1_36 : decode prog_17_method_5_code 36 = .ok (.dreturn, 1) := by decide +kernel
theorem pn_1 : plainName "com/example/wardsum/wardsum/algorithm/TargetNodes" = true := by first | (simp [plainName, overriddenIn]; done) | decide +kernel
theorem ef_1 (m : MethodId) (a1 : Addr) : entryFrame m #[(.ref a1)] 8 = mkF m 0 #[.val (.ref a1), .unset, .unset, .unset, .unset, .unset, .unset, .unset] [] := by first | (simp [entryFrame, mkF, argsToLocals, Value.category]; done) | rfl
def Qrms0 (Z : State) (a1 : Addr) (h0 : Heap) (n0 : Nat) : Option Value → Heap → List Loc → Prop := fun v h L => v = some (.double FP.dconst0) ∧ Fr n0 L ∧ h = h0
set_option maxRecDepth 65536 in
set_option maxHeartbeats 40000000 in
theorem rms0 (l : Launch) (Z : State) (a0 : Array Value) (hw : ∀ d ∈ tables_1, d.before a0 Z = true) (ws : List Jvm.Cond) (a1 : Addr) (h0 : Heap) (n0 : Nat) (Z0 : n0 ≤ h0.size) (A1 : Ax Z h0 a1 .double []) :
    MetFree l (⟨"com/example/wardsum/wardsum/algorithm/TargetNodes", "sum", "([D)D"⟩ : MethodName) (head1 (Jvm.Cond.code (⟨"com/example/wardsum/wardsum/algorithm/TargetNodes", "sum", "([D)D"⟩ : MethodName) prog_17_method_5_code 8 (some .double) :: ws) ({ frames := 0, cells := 0, slots := 0, locals := 0 } : Room)) (fun a U => a = #[(.ref a1)] ∧ Z.Warmed39 U.vm ∧ U.heap = h0) (fun _ _ _ _ _ => True) (fun _ U o U' => ∃ v L, o = .returned v ∧ Qrms0 Z a1 h0 n0 v U'.heap L ∧ FrameEnd U o U' L ({ frames := 0, cells := 0, slots := 0, locals := 0 } : Room).cells ({ frames := 0, cells := 0, slots := 0, locals := 0 } : Room).slots) := by
  refine MetFree.of_bodySF (plainFor_of_name pn_1) hisR ?_
  intro p e s m args below meth c s₁ Bd hml0 hP hK
  obtain ⟨rfl, hZ, hhp⟩ := hP
  have hx := Bd.exec
  have hby := Bd.bytes
  have hml : c.maxLocals = 8 := hml0
  have hown : s.vm.findClass "com/example/wardsum/wardsum/algorithm/TargetNodes" = some m.cls := findClass_of_methodNamed Bd.named
  have hnm := (name_of_methodNamed Bd.named Bd.method).1
  have hlk : meth.locks = false := BodyLoose.notSynchronized Bd
  have hret := Bd.returns
  have X0 : Stand p l e ({ frames := 0, cells := 0, slots := 0, locals := 0 } : Room) s m #[(.ref a1)] below meth c s₁ [] 0 0 := Stand.of_body Bd
  have e0 : s₁.heap = h0 := by rw [← hhp, Bd.state]; rfl
  have N0 := Fr.nil n0
  show Done p e below s (Qrms0 Z a1 h0 n0) ({ frames := 0, cells := 0, slots := 0, locals := 0 } : Room).cells ({ frames := 0, cells := 0, slots := 0, locals := 0 } : Room).slots (s₁.setTop (entryFrame m #[(.ref a1)] 8))
  refine Done.step (fun t k => castTop (ef_1 m a1) k) ?_
  show Done p e below s _ _ _ (s₁.setTop (mkF m 0 #[.val (.ref a1), .unset, .unset, .unset, .unset, .unset, .unset, .unset] []))
  refine Done.step (fun t k => XS.dconst0 X0.here hx rfl (hb hby d1_0) rfl k) ?_
  show Done p e below s _ _ _ (s₁.setTop (mkF m 1 #[.val (.ref a1), .unset, .unset, .unset, .unset, .unset, .unset, .unset] [(.double FP.dconst0)]))
  refine Done.step (fun t k => XS.dstoreN X0.here hx rfl (hb hby d1_1) rfl (l' := #[.val (.ref a1), .val (.double FP.dconst0), .second, .unset, .unset, .unset, .unset, .unset]) rfl k) ?_
  show Done p e below s _ _ _ (s₁.setTop (mkF m 2 #[.val (.ref a1), .val (.double FP.dconst0), .second, .unset, .unset, .unset, .unset, .unset] []))
  refine Done.step (fun t k => XS.aloadN X0.here hx rfl (hb hby d1_2) rfl rfl k) ?_
  show Done p e below s _ _ _ (s₁.setTop (mkF m 3 #[.val (.ref a1), .val (.double FP.dconst0), .second, .unset, .unset, .unset, .unset, .unset] [(.ref a1)]))
  refine Done.step (fun t k => XS.astoreN X0.here hx rfl (hb hby d1_3) rfl rfl (l' := #[.val (.ref a1), .val (.double FP.dconst0), .second, .val (.ref a1), .unset, .unset, .unset, .unset]) rfl k) ?_
  show Done p e below s _ _ _ (s₁.setTop (mkF m 4 #[.val (.ref a1), .val (.double FP.dconst0), .second, .val (.ref a1), .unset, .unset, .unset, .unset] []))
  refine Done.step (fun t k => XS.aloadN X0.here hx rfl (hb hby d1_4) rfl rfl k) ?_
  show Done p e below s _ _ _ (s₁.setTop (mkF m 5 #[.val (.ref a1), .val (.double FP.dconst0), .second, .val (.ref a1), .unset, .unset, .unset, .unset] [(.ref a1)]))
  refine Done.step (lenA X0 hx hZ e0 A1 (n := (0 : Int32)) rfl (g := (mkF m 5 #[.val (.ref a1), .val (.double FP.dconst0), .second, .val (.ref a1), .unset, .unset, .unset, .unset] [(.ref a1)])) rfl rfl (hb hby d1_5)) ?_
  show Done p e below s _ _ _ (s₁.setTop (mkF m 6 #[.val (.ref a1), .val (.double FP.dconst0), .second, .val (.ref a1), .unset, .unset, .unset, .unset] [(.int (0 : Int32))]))
  refine Done.step (fun t k => XS.istore X0.here hx rfl (hb hby d1_6) rfl (l' := #[.val (.ref a1), .val (.double FP.dconst0), .second, .val (.ref a1), .val (.int (0 : Int32)), .unset, .unset, .unset]) rfl k) ?_
  show Done p e below s _ _ _ (s₁.setTop (mkF m 8 #[.val (.ref a1), .val (.double FP.dconst0), .second, .val (.ref a1), .val (.int (0 : Int32)), .unset, .unset, .unset] []))
  refine Done.step (fun t k => XS.iconst X0.here hx rfl (hb hby d1_8) k) ?_
  show Done p e below s _ _ _ (s₁.setTop (mkF m 9 #[.val (.ref a1), .val (.double FP.dconst0), .second, .val (.ref a1), .val (.int (0 : Int32)), .unset, .unset, .unset] [(.int (0 : Int32))]))
  refine Done.step (fun t k => XS.istore X0.here hx rfl (hb hby d1_9) rfl (l' := #[.val (.ref a1), .val (.double FP.dconst0), .second, .val (.ref a1), .val (.int (0 : Int32)), .val (.int (0 : Int32)), .unset, .unset]) rfl k) ?_
  show Done p e below s _ _ _ (s₁.setTop (mkF m 11 #[.val (.ref a1), .val (.double FP.dconst0), .second, .val (.ref a1), .val (.int (0 : Int32)), .val (.int (0 : Int32)), .unset, .unset] []))
  refine Done.step (fun t k => XS.iload X0.here hx rfl (hb hby d1_11) rfl k) ?_
  show Done p e below s _ _ _ (s₁.setTop (mkF m 13 #[.val (.ref a1), .val (.double FP.dconst0), .second, .val (.ref a1), .val (.int (0 : Int32)), .val (.int (0 : Int32)), .unset, .unset] [(.int (0 : Int32))]))
  refine Done.step (fun t k => XS.iload X0.here hx rfl (hb hby d1_13) rfl k) ?_
  show Done p e below s _ _ _ (s₁.setTop (mkF m 15 #[.val (.ref a1), .val (.double FP.dconst0), .second, .val (.ref a1), .val (.int (0 : Int32)), .val (.int (0 : Int32)), .unset, .unset] [(.int (0 : Int32)), (.int (0 : Int32))]))
  refine Done.step (fun t k => XS.icmpYes X0.here hx rfl (pc0 := 15) (pc' := 35) rfl (hb hby d1_15) rfl (flt (by decide)).2.1 (by decide) (by decide) k) ?_
  show Done p e below s _ _ _ (s₁.setTop (mkF m 35 #[.val (.ref a1), .val (.double FP.dconst0), .second, .val (.ref a1), .val (.int (0 : Int32)), .val (.int (0 : Int32)), .unset, .unset] []))
  refine Done.step (fun t k => XS.dloadN X0.here hx rfl (hb hby d1_35) rfl k) ?_
  show Done p e below s _ _ _ (s₁.setTop (mkF m 36 #[.val (.ref a1), .val (.double FP.dconst0), .second, .val (.ref a1), .val (.int (0 : Int32)), .val (.int (0 : Int32)), .unset, .unset] [(.double FP.dconst0)]))
  exact Done.double X0 hx hlk hret (hb hby d1_36) (by decide) (by decide) ⟨rfl, N0, e0⟩
theorem d1_18 : decode prog_17_method_5_code 18 = .ok (.aload_n 3, 1) := by decide +kernel
theorem d1_19 : decode prog_17_method_5_code 19 = .ok (.iload 5, 2) := by decide +kernel
theorem d1_21 : decode prog_17_method_5_code 21 = .ok (.daload, 1) := by decide +kernel
theorem d1_22 : decode prog_17_method_5_code 22 = .ok (.dstore 6, 2) := by decide +kernel
theorem d1_24 : decode prog_17_method_5_code 24 = .ok (.dload_n 1, 1) := by decide +kernel
theorem d1_25 : decode prog_17_method_5_code 25 = .ok (.dload 6, 2) := by decide +kernel
theorem d1_27 : decode prog_17_method_5_code 27 = .ok (.dadd, 1) := by decide +kernel
theorem d1_28 : decode prog_17_method_5_code 28 = .ok (.dstore_n 1, 1) := by decide +kernel
theorem d1_29 : decode prog_17_method_5_code 29 = .ok (.iinc 5 1, 3) := by decide +kernel
theorem d1_32 : decode prog_17_method_5_code 32 = .ok (.goto (-21), 3) := by decide +kernel
def Qrms1 (Z : State) (a1 : Addr) (v0 : UInt64) (h0 : Heap) (n0 : Nat) : Option Value → Heap → List Loc → Prop := fun v h L => v = some (.double (FP.dadd FP.dconst0 v0)) ∧ Fr n0 L ∧ h = h0
set_option maxRecDepth 65536 in
set_option maxHeartbeats 40000000 in
theorem rms1 (l : Launch) (Z : State) (a0 : Array Value) (hw : ∀ d ∈ tables_1, d.before a0 Z = true) (ws : List Jvm.Cond) (a1 : Addr) (v0 : UInt64) (h0 : Heap) (n0 : Nat) (Z0 : n0 ≤ h0.size) (A1 : Ax Z h0 a1 .double [(.double v0)]) (hf0 : Jvm.Free.Fl.Fin64 v0) :
    MetFree l (⟨"com/example/wardsum/wardsum/algorithm/TargetNodes", "sum", "([D)D"⟩ : MethodName) (head1 (Jvm.Cond.code (⟨"com/example/wardsum/wardsum/algorithm/TargetNodes", "sum", "([D)D"⟩ : MethodName) prog_17_method_5_code 8 (some .double) :: ws) ({ frames := 0, cells := 0, slots := 0, locals := 0 } : Room)) (fun a U => a = #[(.ref a1)] ∧ Z.Warmed39 U.vm ∧ U.heap = h0) (fun _ _ _ _ _ => True) (fun _ U o U' => ∃ v L, o = .returned v ∧ Qrms1 Z a1 v0 h0 n0 v U'.heap L ∧ FrameEnd U o U' L ({ frames := 0, cells := 0, slots := 0, locals := 0 } : Room).cells ({ frames := 0, cells := 0, slots := 0, locals := 0 } : Room).slots) := by
  refine MetFree.of_bodySF (plainFor_of_name pn_1) hisR ?_
  intro p e s m args below meth c s₁ Bd hml0 hP hK
  obtain ⟨rfl, hZ, hhp⟩ := hP
  have hx := Bd.exec
  have hby := Bd.bytes
  have hml : c.maxLocals = 8 := hml0
  have hown : s.vm.findClass "com/example/wardsum/wardsum/algorithm/TargetNodes" = some m.cls := findClass_of_methodNamed Bd.named
  have hnm := (name_of_methodNamed Bd.named Bd.method).1
  have hlk : meth.locks = false := BodyLoose.notSynchronized Bd
  have hret := Bd.returns
  have X0 : Stand p l e ({ frames := 0, cells := 0, slots := 0, locals := 0 } : Room) s m #[(.ref a1)] below meth c s₁ [] 0 0 := Stand.of_body Bd
  have e0 : s₁.heap = h0 := by rw [← hhp, Bd.state]; rfl
  have N0 := Fr.nil n0
  show Done p e below s (Qrms1 Z a1 v0 h0 n0) ({ frames := 0, cells := 0, slots := 0, locals := 0 } : Room).cells ({ frames := 0, cells := 0, slots := 0, locals := 0 } : Room).slots (s₁.setTop (entryFrame m #[(.ref a1)] 8))
  refine Done.step (fun t k => castTop (ef_1 m a1) k) ?_
  show Done p e below s _ _ _ (s₁.setTop (mkF m 0 #[.val (.ref a1), .unset, .unset, .unset, .unset, .unset, .unset, .unset] []))
  refine Done.step (fun t k => XS.dconst0 X0.here hx rfl (hb hby d1_0) rfl k) ?_
  show Done p e below s _ _ _ (s₁.setTop (mkF m 1 #[.val (.ref a1), .unset, .unset, .unset, .unset, .unset, .unset, .unset] [(.double FP.dconst0)]))
  refine Done.step (fun t k => XS.dstoreN X0.here hx rfl (hb hby d1_1) rfl (l' := #[.val (.ref a1), .val (.double FP.dconst0), .second, .unset, .unset, .unset, .unset, .unset]) rfl k) ?_
  show Done p e below s _ _ _ (s₁.setTop (mkF m 2 #[.val (.ref a1), .val (.double FP.dconst0), .second, .unset, .unset, .unset, .unset, .unset] []))
  refine Done.step (fun t k => XS.aloadN X0.here hx rfl (hb hby d1_2) rfl rfl k) ?_
  show Done p e below s _ _ _ (s₁.setTop (mkF m 3 #[.val (.ref a1), .val (.double FP.dconst0), .second, .unset, .unset, .unset, .unset, .unset] [(.ref a1)]))
  refine Done.step (fun t k => XS.astoreN X0.here hx rfl (hb hby d1_3) rfl rfl (l' := #[.val (.ref a1), .val (.double FP.dconst0), .second, .val (.ref a1), .unset, .unset, .unset, .unset]) rfl k) ?_
  show Done p e below s _ _ _ (s₁.setTop (mkF m 4 #[.val (.ref a1), .val (.double FP.dconst0), .second, .val (.ref a1), .unset, .unset, .unset, .unset] []))
  refine Done.step (fun t k => XS.aloadN X0.here hx rfl (hb hby d1_4) rfl rfl k) ?_
  show Done p e below s _ _ _ (s₁.setTop (mkF m 5 #[.val (.ref a1), .val (.double FP.dconst0), .second, .val (.ref a1), .unset, .unset, .unset, .unset] [(.ref a1)]))
  refine Done.step (lenA X0 hx hZ e0 A1 (n := (1 : Int32)) rfl (g := (mkF m 5 #[.val (.ref a1), .val (.double FP.dconst0), .second, .val (.ref a1), .unset, .unset, .unset, .unset] [(.ref a1)])) rfl rfl (hb hby d1_5)) ?_
  show Done p e below s _ _ _ (s₁.setTop (mkF m 6 #[.val (.ref a1), .val (.double FP.dconst0), .second, .val (.ref a1), .unset, .unset, .unset, .unset] [(.int (1 : Int32))]))
  refine Done.step (fun t k => XS.istore X0.here hx rfl (hb hby d1_6) rfl (l' := #[.val (.ref a1), .val (.double FP.dconst0), .second, .val (.ref a1), .val (.int (1 : Int32)), .unset, .unset, .unset]) rfl k) ?_
  show Done p e below s _ _ _ (s₁.setTop (mkF m 8 #[.val (.ref a1), .val (.double FP.dconst0), .second, .val (.ref a1), .val (.int (1 : Int32)), .unset, .unset, .unset] []))
  refine Done.step (fun t k => XS.iconst X0.here hx rfl (hb hby d1_8) k) ?_
  show Done p e below s _ _ _ (s₁.setTop (mkF m 9 #[.val (.ref a1), .val (.double FP.dconst0), .second, .val (.ref a1), .val (.int (1 : Int32)), .unset, .unset, .unset] [(.int (0 : Int32))]))
  refine Done.step (fun t k => XS.istore X0.here hx rfl (hb hby d1_9) rfl (l' := #[.val (.ref a1), .val (.double FP.dconst0), .second, .val (.ref a1), .val (.int (1 : Int32)), .val (.int (0 : Int32)), .unset, .unset]) rfl k) ?_
  show Done p e below s _ _ _ (s₁.setTop (mkF m 11 #[.val (.ref a1), .val (.double FP.dconst0), .second, .val (.ref a1), .val (.int (1 : Int32)), .val (.int (0 : Int32)), .unset, .unset] []))
  refine Done.step (fun t k => XS.iload X0.here hx rfl (hb hby d1_11) rfl k) ?_
  show Done p e below s _ _ _ (s₁.setTop (mkF m 13 #[.val (.ref a1), .val (.double FP.dconst0), .second, .val (.ref a1), .val (.int (1 : Int32)), .val (.int (0 : Int32)), .unset, .unset] [(.int (0 : Int32))]))
  refine Done.step (fun t k => XS.iload X0.here hx rfl (hb hby d1_13) rfl k) ?_
  show Done p e below s _ _ _ (s₁.setTop (mkF m 15 #[.val (.ref a1), .val (.double FP.dconst0), .second, .val (.ref a1), .val (.int (1 : Int32)), .val (.int (0 : Int32)), .unset, .unset] [(.int (1 : Int32)), (.int (0 : Int32))]))
  refine Done.step (fun t k => XS.icmpNo X0.here hx rfl (hb hby d1_15) rfl (tlt (by decide)).2.1 k) ?_
  show Done p e below s _ _ _ (s₁.setTop (mkF m 18 #[.val (.ref a1), .val (.double FP.dconst0), .second, .val (.ref a1), .val (.int (1 : Int32)), .val (.int (0 : Int32)), .unset, .unset] []))
  refine Done.step (fun t k => XS.aloadN X0.here hx rfl (hb hby d1_18) rfl rfl k) ?_
  show Done p e below s _ _ _ (s₁.setTop (mkF m 19 #[.val (.ref a1), .val (.double FP.dconst0), .second, .val (.ref a1), .val (.int (1 : Int32)), .val (.int (0 : Int32)), .unset, .unset] [(.ref a1)]))
  refine Done.step (fun t k => XS.iload X0.here hx rfl (hb hby d1_19) rfl k) ?_
  show Done p e below s _ _ _ (s₁.setTop (mkF m 21 #[.val (.ref a1), .val (.double FP.dconst0), .second, .val (.ref a1), .val (.int (1 : Int32)), .val (.int (0 : Int32)), .unset, .unset] [(.int (0 : Int32)), (.ref a1)]))
  refine Done.step (ldD X0 hx hZ e0 A1 (j := (0 : Int32)) (x := (.double v0)) (by decide) rfl (g := (mkF m 21 #[.val (.ref a1), .val (.double FP.dconst0), .second, .val (.ref a1), .val (.int (1 : Int32)), .val (.int (0 : Int32)), .unset, .unset] [(.int (0 : Int32)), (.ref a1)])) rfl rfl (hb hby d1_21)) ?_
  show Done p e below s _ _ _ (s₁.setTop (mkF m 22 #[.val (.ref a1), .val (.double FP.dconst0), .second, .val (.ref a1), .val (.int (1 : Int32)), .val (.int (0 : Int32)), .unset, .unset] [(.double v0)]))
  refine Done.step (fun t k => XS.dstore X0.here hx rfl (hb hby d1_22) rfl (l' := #[.val (.ref a1), .val (.double FP.dconst0), .second, .val (.ref a1), .val (.int (1 : Int32)), .val (.int (0 : Int32)), .val (.double v0), .second]) rfl k) ?_
  show Done p e below s _ _ _ (s₁.setTop (mkF m 24 #[.val (.ref a1), .val (.double FP.dconst0), .second, .val (.ref a1), .val (.int (1 : Int32)), .val (.int (0 : Int32)), .val (.double v0), .second] []))
  refine Done.step (fun t k => XS.dloadN X0.here hx rfl (hb hby d1_24) rfl k) ?_
  show Done p e below s _ _ _ (s₁.setTop (mkF m 25 #[.val (.ref a1), .val (.double FP.dconst0), .second, .val (.ref a1), .val (.int (1 : Int32)), .val (.int (0 : Int32)), .val (.double v0), .second] [(.double FP.dconst0)]))
  refine Done.step (fun t k => XS.dload X0.here hx rfl (hb hby d1_25) rfl k) ?_
  show Done p e below s _ _ _ (s₁.setTop (mkF m 27 #[.val (.ref a1), .val (.double FP.dconst0), .second, .val (.ref a1), .val (.int (1 : Int32)), .val (.int (0 : Int32)), .val (.double v0), .second] [(.double v0), (.double FP.dconst0)]))
  refine Done.step (fun t k => XS.daddS X0.here hx rfl (hb hby d1_27) rfl (Jvm.Free.Fl.dadd_out own_z hf0) rfl k) ?_
  show Done p e below s _ _ _ (s₁.setTop (mkF m 28 #[.val (.ref a1), .val (.double FP.dconst0), .second, .val (.ref a1), .val (.int (1 : Int32)), .val (.int (0 : Int32)), .val (.double v0), .second] [(.double (FP.dadd FP.dconst0 v0))]))
  refine Done.step (fun t k => XS.dstoreN X0.here hx rfl (hb hby d1_28) rfl (l' := #[.val (.ref a1), .val (.double (FP.dadd FP.dconst0 v0)), .second, .val (.ref a1), .val (.int (1 : Int32)), .val (.int (0 : Int32)), .val (.double v0), .second]) rfl k) ?_
  show Done p e below s _ _ _ (s₁.setTop (mkF m 29 #[.val (.ref a1), .val (.double (FP.dadd FP.dconst0 v0)), .second, .val (.ref a1), .val (.int (1 : Int32)), .val (.int (0 : Int32)), .val (.double v0), .second] []))
  refine Done.step (fun t k => XS.iinc X0.here hx rfl (hb hby d1_29) rfl (l' := #[.val (.ref a1), .val (.double (FP.dadd FP.dconst0 v0)), .second, .val (.ref a1), .val (.int (1 : Int32)), .val (.int ((0 : Int32) + (1 : Int32))), .val (.double v0), .second]) rfl k) ?_
  show Done p e below s _ _ _ (s₁.setTop (mkF m 32 #[.val (.ref a1), .val (.double (FP.dadd FP.dconst0 v0)), .second, .val (.ref a1), .val (.int (1 : Int32)), .val (.int ((0 : Int32) + (1 : Int32))), .val (.double v0), .second] []))
  rw [show ((0 : Int32) + (1 : Int32)) = (1 : Int32) from by decide]
  show Done p e below s _ _ _ (s₁.setTop (mkF m 32 #[.val (.ref a1), .val (.double (FP.dadd FP.dconst0 v0)), .second, .val (.ref a1), .val (.int (1 : Int32)), .val (.int (1 : Int32)), .val (.double v0), .second] []))
  refine Done.step (fun t k => XS.goto X0.here hx rfl (pc0 := 32) (pc' := 11) rfl (hb hby d1_32) (by decide) (by decide) k) ?_
  show Done p e below s _ _ _ (s₁.setTop (mkF m 11 #[.val (.ref a1), .val (.double (FP.dadd FP.dconst0 v0)), .second, .val (.ref a1), .val (.int (1 : Int32)), .val (.int (1 : Int32)), .val (.double v0), .second] []))
  refine Done.step (fun t k => XS.iload X0.here hx rfl (hb hby d1_11) rfl k) ?_
  show Done p e below s _ _ _ (s₁.setTop (mkF m 13 #[.val (.ref a1), .val (.double (FP.dadd FP.dconst0 v0)), .second, .val (.ref a1), .val (.int (1 : Int32)), .val (.int (1 : Int32)), .val (.double v0), .second] [(.int (1 : Int32))]))
  refine Done.step (fun t k => XS.iload X0.here hx rfl (hb hby d1_13) rfl k) ?_
  show Done p e below s _ _ _ (s₁.setTop (mkF m 15 #[.val (.ref a1), .val (.double (FP.dadd FP.dconst0 v0)), .second, .val (.ref a1), .val (.int (1 : Int32)), .val (.int (1 : Int32)), .val (.double v0), .second] [(.int (1 : Int32)), (.int (1 : Int32))]))
  refine Done.step (fun t k => XS.icmpYes X0.here hx rfl (pc0 := 15) (pc' := 35) rfl (hb hby d1_15) rfl (flt (by decide)).2.1 (by decide) (by decide) k) ?_
  show Done p e below s _ _ _ (s₁.setTop (mkF m 35 #[.val (.ref a1), .val (.double (FP.dadd FP.dconst0 v0)), .second, .val (.ref a1), .val (.int (1 : Int32)), .val (.int (1 : Int32)), .val (.double v0), .second] []))
  refine Done.step (fun t k => XS.dloadN X0.here hx rfl (hb hby d1_35) rfl k) ?_
  show Done p e below s _ _ _ (s₁.setTop (mkF m 36 #[.val (.ref a1), .val (.double (FP.dadd FP.dconst0 v0)), .second, .val (.ref a1), .val (.int (1 : Int32)), .val (.int (1 : Int32)), .val (.double v0), .second] [(.double (FP.dadd FP.dconst0 v0))]))
  exact Done.double X0 hx hlk hret (hb hby d1_36) (by decide) (by decide) ⟨rfl, N0, e0⟩
def Qrms2 (Z : State) (a1 : Addr) (v0 v1 : UInt64) (h0 : Heap) (n0 : Nat) : Option Value → Heap → List Loc → Prop := fun v h L => v = some (.double (FP.dadd (FP.dadd FP.dconst0 v0) v1)) ∧ Fr n0 L ∧ h = h0
set_option maxRecDepth 65536 in
set_option maxHeartbeats 40000000 in
theorem rms2 (l : Launch) (Z : State) (a0 : Array Value) (hw : ∀ d ∈ tables_1, d.before a0 Z = true) (ws : List Jvm.Cond) (a1 : Addr) (v0 v1 : UInt64) (h0 : Heap) (n0 : Nat) (Z0 : n0 ≤ h0.size) (A1 : Ax Z h0 a1 .double [(.double v0), (.double v1)]) (hf0 : Jvm.Free.Fl.Fin64 v0) (hf1 : Jvm.Free.Fl.Fin64 v1) :
    MetFree l (⟨"com/example/wardsum/wardsum/algorithm/TargetNodes", "sum", "([D)D"⟩ : MethodName) (head1 (Jvm.Cond.code (⟨"com/example/wardsum/wardsum/algorithm/TargetNodes", "sum", "([D)D"⟩ : MethodName) prog_17_method_5_code 8 (some .double) :: ws) ({ frames := 0, cells := 0, slots := 0, locals := 0 } : Room)) (fun a U => a = #[(.ref a1)] ∧ Z.Warmed39 U.vm ∧ U.heap = h0) (fun _ _ _ _ _ => True) (fun _ U o U' => ∃ v L, o = .returned v ∧ Qrms2 Z a1 v0 v1 h0 n0 v U'.heap L ∧ FrameEnd U o U' L ({ frames := 0, cells := 0, slots := 0, locals := 0 } : Room).cells ({ frames := 0, cells := 0, slots := 0, locals := 0 } : Room).slots) := by
  refine MetFree.of_bodySF (plainFor_of_name pn_1) hisR ?_
  intro p e s m args below meth c s₁ Bd hml0 hP hK
  obtain ⟨rfl, hZ, hhp⟩ := hP
  have hx := Bd.exec
  have hby := Bd.bytes
  have hml : c.maxLocals = 8 := hml0
  have hown : s.vm.findClass "com/example/wardsum/wardsum/algorithm/TargetNodes" = some m.cls := findClass_of_methodNamed Bd.named
  have hnm := (name_of_methodNamed Bd.named Bd.method).1
  have hlk : meth.locks = false := BodyLoose.notSynchronized Bd
  have hret := Bd.returns
  have X0 : Stand p l e ({ frames := 0, cells := 0, slots := 0, locals := 0 } : Room) s m #[(.ref a1)] below meth c s₁ [] 0 0 := Stand.of_body Bd
  have e0 : s₁.heap = h0 := by rw [← hhp, Bd.state]; rfl
  have N0 := Fr.nil n0
  show Done p e below s (Qrms2 Z a1 v0 v1 h0 n0) ({ frames := 0, cells := 0, slots := 0, locals := 0 } : Room).cells ({ frames := 0, cells := 0, slots := 0, locals := 0 } : Room).slots (s₁.setTop (entryFrame m #[(.ref a1)] 8))
  refine Done.step (fun t k => castTop (ef_1 m a1) k) ?_
  show Done p e below s _ _ _ (s₁.setTop (mkF m 0 #[.val (.ref a1), .unset, .unset, .unset, .unset, .unset, .unset, .unset] []))
  refine Done.step (fun t k => XS.dconst0 X0.here hx rfl (hb hby d1_0) rfl k) ?_
  show Done p e below s _ _ _ (s₁.setTop (mkF m 1 #[.val (.ref a1), .unset, .unset, .unset, .unset, .unset, .unset, .unset] [(.double FP.dconst0)]))
  refine Done.step (fun t k => XS.dstoreN X0.here hx rfl (hb hby d1_1) rfl (l' := #[.val (.ref a1), .val (.double FP.dconst0), .second, .unset, .unset, .unset, .unset, .unset]) rfl k) ?_
  show Done p e below s _ _ _ (s₁.setTop (mkF m 2 #[.val (.ref a1), .val (.double FP.dconst0), .second, .unset, .unset, .unset, .unset, .unset] []))
  refine Done.step (fun t k => XS.aloadN X0.here hx rfl (hb hby d1_2) rfl rfl k) ?_
  show Done p e below s _ _ _ (s₁.setTop (mkF m 3 #[.val (.ref a1), .val (.double FP.dconst0), .second, .unset, .unset, .unset, .unset, .unset] [(.ref a1)]))
  refine Done.step (fun t k => XS.astoreN X0.here hx rfl (hb hby d1_3) rfl rfl (l' := #[.val (.ref a1), .val (.double FP.dconst0), .second, .val (.ref a1), .unset, .unset, .unset, .unset]) rfl k) ?_
  show Done p e below s _ _ _ (s₁.setTop (mkF m 4 #[.val (.ref a1), .val (.double FP.dconst0), .second, .val (.ref a1), .unset, .unset, .unset, .unset] []))
  refine Done.step (fun t k => XS.aloadN X0.here hx rfl (hb hby d1_4) rfl rfl k) ?_
  show Done p e below s _ _ _ (s₁.setTop (mkF m 5 #[.val (.ref a1), .val (.double FP.dconst0), .second, .val (.ref a1), .unset, .unset, .unset, .unset] [(.ref a1)]))
  refine Done.step (lenA X0 hx hZ e0 A1 (n := (2 : Int32)) rfl (g := (mkF m 5 #[.val (.ref a1), .val (.double FP.dconst0), .second, .val (.ref a1), .unset, .unset, .unset, .unset] [(.ref a1)])) rfl rfl (hb hby d1_5)) ?_
  show Done p e below s _ _ _ (s₁.setTop (mkF m 6 #[.val (.ref a1), .val (.double FP.dconst0), .second, .val (.ref a1), .unset, .unset, .unset, .unset] [(.int (2 : Int32))]))
  refine Done.step (fun t k => XS.istore X0.here hx rfl (hb hby d1_6) rfl (l' := #[.val (.ref a1), .val (.double FP.dconst0), .second, .val (.ref a1), .val (.int (2 : Int32)), .unset, .unset, .unset]) rfl k) ?_
  show Done p e below s _ _ _ (s₁.setTop (mkF m 8 #[.val (.ref a1), .val (.double FP.dconst0), .second, .val (.ref a1), .val (.int (2 : Int32)), .unset, .unset, .unset] []))
  refine Done.step (fun t k => XS.iconst X0.here hx rfl (hb hby d1_8) k) ?_
  show Done p e below s _ _ _ (s₁.setTop (mkF m 9 #[.val (.ref a1), .val (.double FP.dconst0), .second, .val (.ref a1), .val (.int (2 : Int32)), .unset, .unset, .unset] [(.int (0 : Int32))]))
  refine Done.step (fun t k => XS.istore X0.here hx rfl (hb hby d1_9) rfl (l' := #[.val (.ref a1), .val (.double FP.dconst0), .second, .val (.ref a1), .val (.int (2 : Int32)), .val (.int (0 : Int32)), .unset, .unset]) rfl k) ?_
  show Done p e below s _ _ _ (s₁.setTop (mkF m 11 #[.val (.ref a1), .val (.double FP.dconst0), .second, .val (.ref a1), .val (.int (2 : Int32)), .val (.int (0 : Int32)), .unset, .unset] []))
  refine Done.step (fun t k => XS.iload X0.here hx rfl (hb hby d1_11) rfl k) ?_
  show Done p e below s _ _ _ (s₁.setTop (mkF m 13 #[.val (.ref a1), .val (.double FP.dconst0), .second, .val (.ref a1), .val (.int (2 : Int32)), .val (.int (0 : Int32)), .unset, .unset] [(.int (0 : Int32))]))
  refine Done.step (fun t k => XS.iload X0.here hx rfl (hb hby d1_13) rfl k) ?_
  show Done p e below s _ _ _ (s₁.setTop (mkF m 15 #[.val (.ref a1), .val (.double FP.dconst0), .second, .val (.ref a1), .val (.int (2 : Int32)), .val (.int (0 : Int32)), .unset, .unset] [(.int (2 : Int32)), (.int (0 : Int32))]))
  refine Done.step (fun t k => XS.icmpNo X0.here hx rfl (hb hby d1_15) rfl (tlt (by decide)).2.1 k) ?_
  show Done p e below s _ _ _ (s₁.setTop (mkF m 18 #[.val (.ref a1), .val (.double FP.dconst0), .second, .val (.ref a1), .val (.int (2 : Int32)), .val (.int (0 : Int32)), .unset, .unset] []))
  refine Done.step (fun t k => XS.aloadN X0.here hx rfl (hb hby d1_18) rfl rfl k) ?_
  show Done p e below s _ _ _ (s₁.setTop (mkF m 19 #[.val (.ref a1), .val (.double FP.dconst0), .second, .val (.ref a1), .val (.int (2 : Int32)), .val (.int (0 : Int32)), .unset, .unset] [(.ref a1)]))
  refine Done.step (fun t k => XS.iload X0.here hx rfl (hb hby d1_19) rfl k) ?_
  show Done p e below s _ _ _ (s₁.setTop (mkF m 21 #[.val (.ref a1), .val (.double FP.dconst0), .second, .val (.ref a1), .val (.int (2 : Int32)), .val (.int (0 : Int32)), .unset, .unset] [(.int (0 : Int32)), (.ref a1)]))
  refine Done.step (ldD X0 hx hZ e0 A1 (j := (0 : Int32)) (x := (.double v0)) (by decide) rfl (g := (mkF m 21 #[.val (.ref a1), .val (.double FP.dconst0), .second, .val (.ref a1), .val (.int (2 : Int32)), .val (.int (0 : Int32)), .unset, .unset] [(.int (0 : Int32)), (.ref a1)])) rfl rfl (hb hby d1_21)) ?_
  show Done p e below s _ _ _ (s₁.setTop (mkF m 22 #[.val (.ref a1), .val (.double FP.dconst0), .second, .val (.ref a1), .val (.int (2 : Int32)), .val (.int (0 : Int32)), .unset, .unset] [(.double v0)]))
  refine Done.step (fun t k => XS.dstore X0.here hx rfl (hb hby d1_22) rfl (l' := #[.val (.ref a1), .val (.double FP.dconst0), .second, .val (.ref a1), .val (.int (2 : Int32)), .val (.int (0 : Int32)), .val (.double v0), .second]) rfl k) ?_
  show Done p e below s _ _ _ (s₁.setTop (mkF m 24 #[.val (.ref a1), .val (.double FP.dconst0), .second, .val (.ref a1), .val (.int (2 : Int32)), .val (.int (0 : Int32)), .val (.double v0), .second] []))
  refine Done.step (fun t k => XS.dloadN X0.here hx rfl (hb hby d1_24) rfl k) ?_
  show Done p e below s _ _ _ (s₁.setTop (mkF m 25 #[.val (.ref a1), .val (.double FP.dconst0), .second, .val (.ref a1), .val (.int (2 : Int32)), .val (.int (0 : Int32)), .val (.double v0), .second] [(.double FP.dconst0)]))
  refine Done.step (fun t k => XS.dload X0.here hx rfl (hb hby d1_25) rfl k) ?_
  show Done p e below s _ _ _ (s₁.setTop (mkF m 27 #[.val (.ref a1), .val (.double FP.dconst0), .second, .val (.ref a1), .val (.int (2 : Int32)), .val (.int (0 : Int32)), .val (.double v0), .second] [(.double v0), (.double FP.dconst0)]))
  refine Done.step (fun t k => XS.daddS X0.here hx rfl (hb hby d1_27) rfl (Jvm.Free.Fl.dadd_out own_z hf0) rfl k) ?_
  show Done p e below s _ _ _ (s₁.setTop (mkF m 28 #[.val (.ref a1), .val (.double FP.dconst0), .second, .val (.ref a1), .val (.int (2 : Int32)), .val (.int (0 : Int32)), .val (.double v0), .second] [(.double (FP.dadd FP.dconst0 v0))]))
  refine Done.step (fun t k => XS.dstoreN X0.here hx rfl (hb hby d1_28) rfl (l' := #[.val (.ref a1), .val (.double (FP.dadd FP.dconst0 v0)), .second, .val (.ref a1), .val (.int (2 : Int32)), .val (.int (0 : Int32)), .val (.double v0), .second]) rfl k) ?_
  show Done p e below s _ _ _ (s₁.setTop (mkF m 29 #[.val (.ref a1), .val (.double (FP.dadd FP.dconst0 v0)), .second, .val (.ref a1), .val (.int (2 : Int32)), .val (.int (0 : Int32)), .val (.double v0), .second] []))
  refine Done.step (fun t k => XS.iinc X0.here hx rfl (hb hby d1_29) rfl (l' := #[.val (.ref a1), .val (.double (FP.dadd FP.dconst0 v0)), .second, .val (.ref a1), .val (.int (2 : Int32)), .val (.int ((0 : Int32) + (1 : Int32))), .val (.double v0), .second]) rfl k) ?_
  show Done p e below s _ _ _ (s₁.setTop (mkF m 32 #[.val (.ref a1), .val (.double (FP.dadd FP.dconst0 v0)), .second, .val (.ref a1), .val (.int (2 : Int32)), .val (.int ((0 : Int32) + (1 : Int32))), .val (.double v0), .second] []))
  rw [show ((0 : Int32) + (1 : Int32)) = (1 : Int32) from by decide]
  show Done p e below s _ _ _ (s₁.setTop (mkF m 32 #[.val (.ref a1), .val (.double (FP.dadd FP.dconst0 v0)), .second, .val (.ref a1), .val (.int (2 : Int32)), .val (.int (1 : Int32)), .val (.double v0), .second] []))
  refine Done.step (fun t k => XS.goto X0.here hx rfl (pc0 := 32) (pc' := 11) rfl (hb hby d1_32) (by decide) (by decide) k) ?_
  show Done p e below s _ _ _ (s₁.setTop (mkF m 11 #[.val (.ref a1), .val (.double (FP.dadd FP.dconst0 v0)), .second, .val (.ref a1), .val (.int (2 : Int32)), .val (.int (1 : Int32)), .val (.double v0), .second] []))
  refine Done.step (fun t k => XS.iload X0.here hx rfl (hb hby d1_11) rfl k) ?_
  show Done p e below s _ _ _ (s₁.setTop (mkF m 13 #[.val (.ref a1), .val (.double (FP.dadd FP.dconst0 v0)), .second, .val (.ref a1), .val (.int (2 : Int32)), .val (.int (1 : Int32)), .val (.double v0), .second] [(.int (1 : Int32))]))
  refine Done.step (fun t k => XS.iload X0.here hx rfl (hb hby d1_13) rfl k) ?_
  show Done p e below s _ _ _ (s₁.setTop (mkF m 15 #[.val (.ref a1), .val (.double (FP.dadd FP.dconst0 v0)), .second, .val (.ref a1), .val (.int (2 : Int32)), .val (.int (1 : Int32)), .val (.double v0), .second] [(.int (2 : Int32)), (.int (1 : Int32))]))
  refine Done.step (fun t k => XS.icmpNo X0.here hx rfl (hb hby d1_15) rfl (tlt (by decide)).2.1 k) ?_
  show Done p e below s _ _ _ (s₁.setTop (mkF m 18 #[.val (.ref a1), .val (.double (FP.dadd FP.dconst0 v0)), .second, .val (.ref a1), .val (.int (2 : Int32)), .val (.int (1 : Int32)), .val (.double v0), .second] []))
  refine Done.step (fun t k => XS.aloadN X0.here hx rfl (hb hby d1_18) rfl rfl k) ?_
  show Done p e below s _ _ _ (s₁.setTop (mkF m 19 #[.val (.ref a1), .val (.double (FP.dadd FP.dconst0 v0)), .second, .val (.ref a1), .val (.int (2 : Int32)), .val (.int (1 : Int32)), .val (.double v0), .second] [(.ref a1)]))
  refine Done.step (fun t k => XS.iload X0.here hx rfl (hb hby d1_19) rfl k) ?_
  show Done p e below s _ _ _ (s₁.setTop (mkF m 21 #[.val (.ref a1), .val (.double (FP.dadd FP.dconst0 v0)), .second, .val (.ref a1), .val (.int (2 : Int32)), .val (.int (1 : Int32)), .val (.double v0), .second] [(.int (1 : Int32)), (.ref a1)]))
  refine Done.step (ldD X0 hx hZ e0 A1 (j := (1 : Int32)) (x := (.double v1)) (by decide) rfl (g := (mkF m 21 #[.val (.ref a1), .val (.double (FP.dadd FP.dconst0 v0)), .second, .val (.ref a1), .val (.int (2 : Int32)), .val (.int (1 : Int32)), .val (.double v0), .second] [(.int (1 : Int32)), (.ref a1)])) rfl rfl (hb hby d1_21)) ?_
  show Done p e below s _ _ _ (s₁.setTop (mkF m 22 #[.val (.ref a1), .val (.double (FP.dadd FP.dconst0 v0)), .second, .val (.ref a1), .val (.int (2 : Int32)), .val (.int (1 : Int32)), .val (.double v0), .second] [(.double v1)]))
  refine Done.step (fun t k => XS.dstore X0.here hx rfl (hb hby d1_22) rfl (l' := #[.val (.ref a1), .val (.double (FP.dadd FP.dconst0 v0)), .second, .val (.ref a1), .val (.int (2 : Int32)), .val (.int (1 : Int32)), .val (.double v1), .second]) rfl k) ?_
  show Done p e below s _ _ _ (s₁.setTop (mkF m 24 #[.val (.ref a1), .val (.double (FP.dadd FP.dconst0 v0)), .second, .val (.ref a1), .val (.int (2 : Int32)), .val (.int (1 : Int32)), .val (.double v1), .second] []))
  refine Done.step (fun t k => XS.dloadN X0.here hx rfl (hb hby d1_24) rfl k) ?_
  show Done p e below s _ _ _ (s₁.setTop (mkF m 25 #[.val (.ref a1), .val (.double (FP.dadd FP.dconst0 v0)), .second, .val (.ref a1), .val (.int (2 : Int32)), .val (.int (1 : Int32)), .val (.double v1), .second] [(.double (FP.dadd FP.dconst0 v0))]))
  refine Done.step (fun t k => XS.dload X0.here hx rfl (hb hby d1_25) rfl k) ?_
  show Done p e below s _ _ _ (s₁.setTop (mkF m 27 #[.val (.ref a1), .val (.double (FP.dadd FP.dconst0 v0)), .second, .val (.ref a1), .val (.int (2 : Int32)), .val (.int (1 : Int32)), .val (.double v1), .second] [(.double v1), (.double (FP.dadd FP.dconst0 v0))]))
  refine Done.step (fun t k => XS.daddS X0.here hx rfl (hb hby d1_27) rfl (Jvm.Free.Fl.dadd_out (Jvm.Free.Fl.dadd_out own_z hf0) hf1) rfl k) ?_
  show Done p e below s _ _ _ (s₁.setTop (mkF m 28 #[.val (.ref a1), .val (.double (FP.dadd FP.dconst0 v0)), .second, .val (.ref a1), .val (.int (2 : Int32)), .val (.int (1 : Int32)), .val (.double v1), .second] [(.double (FP.dadd (FP.dadd FP.dconst0 v0) v1))]))
  refine Done.step (fun t k => XS.dstoreN X0.here hx rfl (hb hby d1_28) rfl (l' := #[.val (.ref a1), .val (.double (FP.dadd (FP.dadd FP.dconst0 v0) v1)), .second, .val (.ref a1), .val (.int (2 : Int32)), .val (.int (1 : Int32)), .val (.double v1), .second]) rfl k) ?_
  show Done p e below s _ _ _ (s₁.setTop (mkF m 29 #[.val (.ref a1), .val (.double (FP.dadd (FP.dadd FP.dconst0 v0) v1)), .second, .val (.ref a1), .val (.int (2 : Int32)), .val (.int (1 : Int32)), .val (.double v1), .second] []))
  refine Done.step (fun t k => XS.iinc X0.here hx rfl (hb hby d1_29) rfl (l' := #[.val (.ref a1), .val (.double (FP.dadd (FP.dadd FP.dconst0 v0) v1)), .second, .val (.ref a1), .val (.int (2 : Int32)), .val (.int ((1 : Int32) + (1 : Int32))), .val (.double v1), .second]) rfl k) ?_
  show Done p e below s _ _ _ (s₁.setTop (mkF m 32 #[.val (.ref a1), .val (.double (FP.dadd (FP.dadd FP.dconst0 v0) v1)), .second, .val (.ref a1), .val (.int (2 : Int32)), .val (.int ((1 : Int32) + (1 : Int32))), .val (.double v1), .second] []))
  rw [show ((1 : Int32) + (1 : Int32)) = (2 : Int32) from by decide]
  show Done p e below s _ _ _ (s₁.setTop (mkF m 32 #[.val (.ref a1), .val (.double (FP.dadd (FP.dadd FP.dconst0 v0) v1)), .second, .val (.ref a1), .val (.int (2 : Int32)), .val (.int (2 : Int32)), .val (.double v1), .second] []))
  refine Done.step (fun t k => XS.goto X0.here hx rfl (pc0 := 32) (pc' := 11) rfl (hb hby d1_32) (by decide) (by decide) k) ?_
  show Done p e below s _ _ _ (s₁.setTop (mkF m 11 #[.val (.ref a1), .val (.double (FP.dadd (FP.dadd FP.dconst0 v0) v1)), .second, .val (.ref a1), .val (.int (2 : Int32)), .val (.int (2 : Int32)), .val (.double v1), .second] []))
  refine Done.step (fun t k => XS.iload X0.here hx rfl (hb hby d1_11) rfl k) ?_
  show Done p e below s _ _ _ (s₁.setTop (mkF m 13 #[.val (.ref a1), .val (.double (FP.dadd (FP.dadd FP.dconst0 v0) v1)), .second, .val (.ref a1), .val (.int (2 : Int32)), .val (.int (2 : Int32)), .val (.double v1), .second] [(.int (2 : Int32))]))
  refine Done.step (fun t k => XS.iload X0.here hx rfl (hb hby d1_13) rfl k) ?_
  show Done p e below s _ _ _ (s₁.setTop (mkF m 15 #[.val (.ref a1), .val (.double (FP.dadd (FP.dadd FP.dconst0 v0) v1)), .second, .val (.ref a1), .val (.int (2 : Int32)), .val (.int (2 : Int32)), .val (.double v1), .second] [(.int (2 : Int32)), (.int (2 : Int32))]))
  refine Done.step (fun t k => XS.icmpYes X0.here hx rfl (pc0 := 15) (pc' := 35) rfl (hb hby d1_15) rfl (flt (by decide)).2.1 (by decide) (by decide) k) ?_
  show Done p e below s _ _ _ (s₁.setTop (mkF m 35 #[.val (.ref a1), .val (.double (FP.dadd (FP.dadd FP.dconst0 v0) v1)), .second, .val (.ref a1), .val (.int (2 : Int32)), .val (.int (2 : Int32)), .val (.double v1), .second] []))
  refine Done.step (fun t k => XS.dloadN X0.here hx rfl (hb hby d1_35) rfl k) ?_
  show Done p e below s _ _ _ (s₁.setTop (mkF m 36 #[.val (.ref a1), .val (.double (FP.dadd (FP.dadd FP.dconst0 v0) v1)), .second, .val (.ref a1), .val (.int (2 : Int32)), .val (.int (2 : Int32)), .val (.double v1), .second] [(.double (FP.dadd (FP.dadd FP.dconst0 v0) v1))]))
  exact Done.double X0 hx hlk hret (hb hby d1_36) (by decide) (by decide) ⟨rfl, N0, e0⟩
def Qrms3 (Z : State) (a1 : Addr) (v0 v1 v2 : UInt64) (h0 : Heap) (n0 : Nat) : Option Value → Heap → List Loc → Prop := fun v h L => v = some (.double (FP.dadd (FP.dadd (FP.dadd FP.dconst0 v0) v1) v2)) ∧ Fr n0 L ∧ h = h0
set_option maxRecDepth 65536 in
set_option maxHeartbeats 40000000 in
theorem rms3 (l : Launch) (Z : State) (a0 : Array Value) (hw : ∀ d ∈ tables_1, d.before a0 Z = true) (ws : List Jvm.Cond) (a1 : Addr) (v0 v1 v2 : UInt64) (h0 : Heap) (n0 : Nat) (Z0 : n0 ≤ h0.size) (A1 : Ax Z h0 a1 .double [(.double v0), (.double v1), (.double v2)]) (hf0 : Jvm.Free.Fl.Fin64 v0) (hf1 : Jvm.Free.Fl.Fin64 v1) (hf2 : Jvm.Free.Fl.Fin64 v2) :
    MetFree l (⟨"com/example/wardsum/wardsum/algorithm/TargetNodes", "sum", "([D)D"⟩ : MethodName) (head1 (Jvm.Cond.code (⟨"com/example/wardsum/wardsum/algorithm/TargetNodes", "sum", "([D)D"⟩ : MethodName) prog_17_method_5_code 8 (some .double) :: ws) ({ frames := 0, cells := 0, slots := 0, locals := 0 } : Room)) (fun a U => a = #[(.ref a1)] ∧ Z.Warmed39 U.vm ∧ U.heap = h0) (fun _ _ _ _ _ => True) (fun _ U o U' => ∃ v L, o = .returned v ∧ Qrms3 Z a1 v0 v1 v2 h0 n0 v U'.heap L ∧ FrameEnd U o U' L ({ frames := 0, cells := 0, slots := 0, locals := 0 } : Room).cells ({ frames := 0, cells := 0, slots := 0, locals := 0 } : Room).slots) := by
  refine MetFree.of_bodySF (plainFor_of_name pn_1) hisR ?_
  intro p e s m args below meth c s₁ Bd hml0 hP hK
  obtain ⟨rfl, hZ, hhp⟩ := hP
  have hx := Bd.exec
  have hby := Bd.bytes
  have hml : c.maxLocals = 8 := hml0
  have hown : s.vm.findClass "com/example/wardsum/wardsum/algorithm/TargetNodes" = some m.cls := findClass_of_methodNamed Bd.named
  have hnm := (name_of_methodNamed Bd.named Bd.method).1
  have hlk : meth.locks = false := BodyLoose.notSynchronized Bd
  have hret := Bd.returns
  have X0 : Stand p l e ({ frames := 0, cells := 0, slots := 0, locals := 0 } : Room) s m #[(.ref a1)] below meth c s₁ [] 0 0 := Stand.of_body Bd
  have e0 : s₁.heap = h0 := by rw [← hhp, Bd.state]; rfl
  have N0 := Fr.nil n0
  show Done p e below s (Qrms3 Z a1 v0 v1 v2 h0 n0) ({ frames := 0, cells := 0, slots := 0, locals := 0 } : Room).cells ({ frames := 0, cells := 0, slots := 0, locals := 0 } : Room).slots (s₁.setTop (entryFrame m #[(.ref a1)] 8))
  refine Done.step (fun t k => castTop (ef_1 m a1) k) ?_
  show Done p e below s _ _ _ (s₁.setTop (mkF m 0 #[.val (.ref a1), .unset, .unset, .unset, .unset, .unset, .unset, .unset] []))
  refine Done.step (fun t k => XS.dconst0 X0.here hx rfl (hb hby d1_0) rfl k) ?_
  show Done p e below s _ _ _ (s₁.setTop (mkF m 1 #[.val (.ref a1), .unset, .unset, .unset, .unset, .unset, .unset, .unset] [(.double FP.dconst0)]))
  refine Done.step (fun t k => XS.dstoreN X0.here hx rfl (hb hby d1_1) rfl (l' := #[.val (.ref a1), .val (.double FP.dconst0), .second, .unset, .unset, .unset, .unset, .unset]) rfl k) ?_
  show Done p e below s _ _ _ (s₁.setTop (mkF m 2 #[.val (.ref a1), .val (.double FP.dconst0), .second, .unset, .unset, .unset, .unset, .unset] []))
  refine Done.step (fun t k => XS.aloadN X0.here hx rfl (hb hby d1_2) rfl rfl k) ?_
  show Done p e below s _ _ _ (s₁.setTop (mkF m 3 #[.val (.ref a1), .val (.double FP.dconst0), .second, .unset, .unset, .unset, .unset, .unset] [(.ref a1)]))
  refine Done.step (fun t k => XS.astoreN X0.here hx rfl (hb hby d1_3) rfl rfl (l' := #[.val (.ref a1), .val (.double FP.dconst0), .second, .val (.ref a1), .unset, .unset, .unset, .unset]) rfl k) ?_
  show Done p e below s _ _ _ (s₁.setTop (mkF m 4 #[.val (.ref a1), .val (.double FP.dconst0), .second, .val (.ref a1), .unset, .unset, .unset, .unset] []))
  refine Done.step (fun t k => XS.aloadN X0.here hx rfl (hb hby d1_4) rfl rfl k) ?_
  show Done p e below s _ _ _ (s₁.setTop (mkF m 5 #[.val (.ref a1), .val (.double FP.dconst0), .second, .val (.ref a1), .unset, .unset, .unset, .unset] [(.ref a1)]))
  refine Done.step (lenA X0 hx hZ e0 A1 (n := (3 : Int32)) rfl (g := (mkF m 5 #[.val (.ref a1), .val (.double FP.dconst0), .second, .val (.ref a1), .unset, .unset, .unset, .unset] [(.ref a1)])) rfl rfl (hb hby d1_5)) ?_
  show Done p e below s _ _ _ (s₁.setTop (mkF m 6 #[.val (.ref a1), .val (.double FP.dconst0), .second, .val (.ref a1), .unset, .unset, .unset, .unset] [(.int (3 : Int32))]))
  refine Done.step (fun t k => XS.istore X0.here hx rfl (hb hby d1_6) rfl (l' := #[.val (.ref a1), .val (.double FP.dconst0), .second, .val (.ref a1), .val (.int (3 : Int32)), .unset, .unset, .unset]) rfl k) ?_
  show Done p e below s _ _ _ (s₁.setTop (mkF m 8 #[.val (.ref a1), .val (.double FP.dconst0), .second, .val (.ref a1), .val (.int (3 : Int32)), .unset, .unset, .unset] []))
  refine Done.step (fun t k => XS.iconst X0.here hx rfl (hb hby d1_8) k) ?_
  show Done p e below s _ _ _ (s₁.setTop (mkF m 9 #[.val (.ref a1), .val (.double FP.dconst0), .second, .val (.ref a1), .val (.int (3 : Int32)), .unset, .unset, .unset] [(.int (0 : Int32))]))
  refine Done.step (fun t k => XS.istore X0.here hx rfl (hb hby d1_9) rfl (l' := #[.val (.ref a1), .val (.double FP.dconst0), .second, .val (.ref a1), .val (.int (3 : Int32)), .val (.int (0 : Int32)), .unset, .unset]) rfl k) ?_
  show Done p e below s _ _ _ (s₁.setTop (mkF m 11 #[.val (.ref a1), .val (.double FP.dconst0), .second, .val (.ref a1), .val (.int (3 : Int32)), .val (.int (0 : Int32)), .unset, .unset] []))
  refine Done.step (fun t k => XS.iload X0.here hx rfl (hb hby d1_11) rfl k) ?_
  show Done p e below s _ _ _ (s₁.setTop (mkF m 13 #[.val (.ref a1), .val (.double FP.dconst0), .second, .val (.ref a1), .val (.int (3 : Int32)), .val (.int (0 : Int32)), .unset, .unset] [(.int (0 : Int32))]))
  refine Done.step (fun t k => XS.iload X0.here hx rfl (hb hby d1_13) rfl k) ?_
  show Done p e below s _ _ _ (s₁.setTop (mkF m 15 #[.val (.ref a1), .val (.double FP.dconst0), .second, .val (.ref a1), .val (.int (3 : Int32)), .val (.int (0 : Int32)), .unset, .unset] [(.int (3 : Int32)), (.int (0 : Int32))]))
  refine Done.step (fun t k => XS.icmpNo X0.here hx rfl (hb hby d1_15) rfl (tlt (by decide)).2.1 k) ?_
  show Done p e below s _ _ _ (s₁.setTop (mkF m 18 #[.val (.ref a1), .val (.double FP.dconst0), .second, .val (.ref a1), .val (.int (3 : Int32)), .val (.int (0 : Int32)), .unset, .unset] []))
  refine Done.step (fun t k => XS.aloadN X0.here hx rfl (hb hby d1_18) rfl rfl k) ?_
  show Done p e below s _ _ _ (s₁.setTop (mkF m 19 #[.val (.ref a1), .val (.double FP.dconst0), .second, .val (.ref a1), .val (.int (3 : Int32)), .val (.int (0 : Int32)), .unset, .unset] [(.ref a1)]))
  refine Done.step (fun t k => XS.iload X0.here hx rfl (hb hby d1_19) rfl k) ?_
  show Done p e below s _ _ _ (s₁.setTop (mkF m 21 #[.val (.ref a1), .val (.double FP.dconst0), .second, .val (.ref a1), .val (.int (3 : Int32)), .val (.int (0 : Int32)), .unset, .unset] [(.int (0 : Int32)), (.ref a1)]))
  refine Done.step (ldD X0 hx hZ e0 A1 (j := (0 : Int32)) (x := (.double v0)) (by decide) rfl (g := (mkF m 21 #[.val (.ref a1), .val (.double FP.dconst0), .second, .val (.ref a1), .val (.int (3 : Int32)), .val (.int (0 : Int32)), .unset, .unset] [(.int (0 : Int32)), (.ref a1)])) rfl rfl (hb hby d1_21)) ?_
  show Done p e below s _ _ _ (s₁.setTop (mkF m 22 #[.val (.ref a1), .val (.double FP.dconst0), .second, .val (.ref a1), .val (.int (3 : Int32)), .val (.int (0 : Int32)), .unset, .unset] [(.double v0)]))
  refine Done.step (fun t k => XS.dstore X0.here hx rfl (hb hby d1_22) rfl (l' := #[.val (.ref a1), .val (.double FP.dconst0), .second, .val (.ref a1), .val (.int (3 : Int32)), .val (.int (0 : Int32)), .val (.double v0), .second]) rfl k) ?_
  show Done p e below s _ _ _ (s₁.setTop (mkF m 24 #[.val (.ref a1), .val (.double FP.dconst0), .second, .val (.ref a1), .val (.int (3 : Int32)), .val (.int (0 : Int32)), .val (.double v0), .second] []))
  refine Done.step (fun t k => XS.dloadN X0.here hx rfl (hb hby d1_24) rfl k) ?_
  show Done p e below s _ _ _ (s₁.setTop (mkF m 25 #[.val (.ref a1), .val (.double FP.dconst0), .second, .val (.ref a1), .val (.int (3 : Int32)), .val (.int (0 : Int32)), .val (.double v0), .second] [(.double FP.dconst0)]))
  refine Done.step (fun t k => XS.dload X0.here hx rfl (hb hby d1_25) rfl k) ?_
  show Done p e below s _ _ _ (s₁.setTop (mkF m 27 #[.val (.ref a1), .val (.double FP.dconst0), .second, .val (.ref a1), .val (.int (3 : Int32)), .val (.int (0 : Int32)), .val (.double v0), .second] [(.double v0), (.double FP.dconst0)]))
  refine Done.step (fun t k => XS.daddS X0.here hx rfl (hb hby d1_27) rfl (Jvm.Free.Fl.dadd_out own_z hf0) rfl k) ?_
  show Done p e below s _ _ _ (s₁.setTop (mkF m 28 #[.val (.ref a1), .val (.double FP.dconst0), .second, .val (.ref a1), .val (.int (3 : Int32)), .val (.int (0 : Int32)), .val (.double v0), .second] [(.double (FP.dadd FP.dconst0 v0))]))
  refine Done.step (fun t k => XS.dstoreN X0.here hx rfl (hb hby d1_28) rfl (l' := #[.val (.ref a1), .val (.double (FP.dadd FP.dconst0 v0)), .second, .val (.ref a1), .val (.int (3 : Int32)), .val (.int (0 : Int32)), .val (.double v0), .second]) rfl k) ?_
  show Done p e below s _ _ _ (s₁.setTop (mkF m 29 #[.val (.ref a1), .val (.double (FP.dadd FP.dconst0 v0)), .second, .val (.ref a1), .val (.int (3 : Int32)), .val (.int (0 : Int32)), .val (.double v0), .second] []))
  refine Done.step (fun t k => XS.iinc X0.here hx rfl (hb hby d1_29) rfl (l' := #[.val (.ref a1), .val (.double (FP.dadd FP.dconst0 v0)), .second, .val (.ref a1), .val (.int (3 : Int32)), .val (.int ((0 : Int32) + (1 : Int32))), .val (.double v0), .second]) rfl k) ?_
  show Done p e below s _ _ _ (s₁.setTop (mkF m 32 #[.val (.ref a1), .val (.double (FP.dadd FP.dconst0 v0)), .second, .val (.ref a1), .val (.int (3 : Int32)), .val (.int ((0 : Int32) + (1 : Int32))), .val (.double v0), .second] []))
  rw [show ((0 : Int32) + (1 : Int32)) = (1 : Int32) from by decide]
  show Done p e below s _ _ _ (s₁.setTop (mkF m 32 #[.val (.ref a1), .val (.double (FP.dadd FP.dconst0 v0)), .second, .val (.ref a1), .val (.int (3 : Int32)), .val (.int (1 : Int32)), .val (.double v0), .second] []))
  refine Done.step (fun t k => XS.goto X0.here hx rfl (pc0 := 32) (pc' := 11) rfl (hb hby d1_32) (by decide) (by decide) k) ?_
  show Done p e below s _ _ _ (s₁.setTop (mkF m 11 #[.val (.ref a1), .val (.double (FP.dadd FP.dconst0 v0)), .second, .val (.ref a1), .val (.int (3 : Int32)), .val (.int (1 : Int32)), .val (.double v0), .second] []))
  refine Done.step (fun t k => XS.iload X0.here hx rfl (hb hby d1_11) rfl k) ?_
  show Done p e below s _ _ _ (s₁.setTop (mkF m 13 #[.val (.ref a1), .val (.double (FP.dadd FP.dconst0 v0)), .second, .val (.ref a1), .val (.int (3 : Int32)), .val (.int (1 : Int32)), .val (.double v0), .second] [(.int (1 : Int32))]))
  refine Done.step (fun t k => XS.iload X0.here hx rfl (hb hby d1_13) rfl k) ?_
  show Done p e below s _ _ _ (s₁.setTop (mkF m 15 #[.val (.ref a1), .val (.double (FP.dadd FP.dconst0 v0)), .second, .val (.ref a1), .val (.int (3 : Int32)), .val (.int (1 : Int32)), .val (.double v0), .second] [(.int (3 : Int32)), (.int (1 : Int32))]))
  refine Done.step (fun t k => XS.icmpNo X0.here hx rfl (hb hby d1_15) rfl (tlt (by decide)).2.1 k) ?_
  show Done p e below s _ _ _ (s₁.setTop (mkF m 18 #[.val (.ref a1), .val (.double (FP.dadd FP.dconst0 v0)), .second, .val (.ref a1), .val (.int (3 : Int32)), .val (.int (1 : Int32)), .val (.double v0), .second] []))
  refine Done.step (fun t k => XS.aloadN X0.here hx rfl (hb hby d1_18) rfl rfl k) ?_
  show Done p e below s _ _ _ (s₁.setTop (mkF m 19 #[.val (.ref a1), .val (.double (FP.dadd FP.dconst0 v0)), .second, .val (.ref a1), .val (.int (3 : Int32)), .val (.int (1 : Int32)), .val (.double v0), .second] [(.ref a1)]))
  refine Done.step (fun t k => XS.iload X0.here hx rfl (hb hby d1_19) rfl k) ?_
  show Done p e below s _ _ _ (s₁.setTop (mkF m 21 #[.val (.ref a1), .val (.double (FP.dadd FP.dconst0 v0)), .second, .val (.ref a1), .val (.int (3 : Int32)), .val (.int (1 : Int32)), .val (.double v0), .second] [(.int (1 : Int32)), (.ref a1)]))
  refine Done.step (ldD X0 hx hZ e0 A1 (j := (1 : Int32)) (x := (.double v1)) (by decide) rfl (g := (mkF m 21 #[.val (.ref a1), .val (.double (FP.dadd FP.dconst0 v0)), .second, .val (.ref a1), .val (.int (3 : Int32)), .val (.int (1 : Int32)), .val (.double v0), .second] [(.int (1 : Int32)), (.ref a1)])) rfl rfl (hb hby d1_21)) ?_
  show Done p e below s _ _ _ (s₁.setTop (mkF m 22 #[.val (.ref a1), .val (.double (FP.dadd FP.dconst0 v0)), .second, .val (.ref a1), .val (.int (3 : Int32)), .val (.int (1 : Int32)), .val (.double v0), .second] [(.double v1)]))
  refine Done.step (fun t k => XS.dstore X0.here hx rfl (hb hby d1_22) rfl (l' := #[.val (.ref a1), .val (.double (FP.dadd FP.dconst0 v0)), .second, .val (.ref a1), .val (.int (3 : Int32)), .val (.int (1 : Int32)), .val (.double v1), .second]) rfl k) ?_
  show Done p e below s _ _ _ (s₁.setTop (mkF m 24 #[.val (.ref a1), .val (.double (FP.dadd FP.dconst0 v0)), .second, .val (.ref a1), .val (.int (3 : Int32)), .val (.int (1 : Int32)), .val (.double v1), .second] []))
  refine Done.step (fun t k => XS.dloadN X0.here hx rfl (hb hby d1_24) rfl k) ?_
  show Done p e below s _ _ _ (s₁.setTop (mkF m 25 #[.val (.ref a1), .val (.double (FP.dadd FP.dconst0 v0)), .second, .val (.ref a1), .val (.int (3 : Int32)), .val (.int (1 : Int32)), .val (.double v1), .second] [(.double (FP.dadd FP.dconst0 v0))]))
  refine Done.step (fun t k => XS.dload X0.here hx rfl (hb hby d1_25) rfl k) ?_
  show Done p e below s _ _ _ (s₁.setTop (mkF m 27 #[.val (.ref a1), .val (.double (FP.dadd FP.dconst0 v0)), .second, .val (.ref a1), .val (.int (3 : Int32)), .val (.int (1 : Int32)), .val (.double v1), .second] [(.double v1), (.double (FP.dadd FP.dconst0 v0))]))
  refine Done.step (fun t k => XS.daddS X0.here hx rfl (hb hby d1_27) rfl (Jvm.Free.Fl.dadd_out (Jvm.Free.Fl.dadd_out own_z hf0) hf1) rfl k) ?_
  show Done p e below s _ _ _ (s₁.setTop (mkF m 28 #[.val (.ref a1), .val (.double (FP.dadd FP.dconst0 v0)), .second, .val (.ref a1), .val (.int (3 : Int32)), .val (.int (1 : Int32)), .val (.double v1), .second] [(.double (FP.dadd (FP.dadd FP.dconst0 v0) v1))]))
  refine Done.step (fun t k => XS.dstoreN X0.here hx rfl (hb hby d1_28) rfl (l' := #[.val (.ref a1), .val (.double (FP.dadd (FP.dadd FP.dconst0 v0) v1)), .second, .val (.ref a1), .val (.int (3 : Int32)), .val (.int (1 : Int32)), .val (.double v1), .second]) rfl k) ?_
  show Done p e below s _ _ _ (s₁.setTop (mkF m 29 #[.val (.ref a1), .val (.double (FP.dadd (FP.dadd FP.dconst0 v0) v1)), .second, .val (.ref a1), .val (.int (3 : Int32)), .val (.int (1 : Int32)), .val (.double v1), .second] []))
  refine Done.step (fun t k => XS.iinc X0.here hx rfl (hb hby d1_29) rfl (l' := #[.val (.ref a1), .val (.double (FP.dadd (FP.dadd FP.dconst0 v0) v1)), .second, .val (.ref a1), .val (.int (3 : Int32)), .val (.int ((1 : Int32) + (1 : Int32))), .val (.double v1), .second]) rfl k) ?_
  show Done p e below s _ _ _ (s₁.setTop (mkF m 32 #[.val (.ref a1), .val (.double (FP.dadd (FP.dadd FP.dconst0 v0) v1)), .second, .val (.ref a1), .val (.int (3 : Int32)), .val (.int ((1 : Int32) + (1 : Int32))), .val (.double v1), .second] []))
  rw [show ((1 : Int32) + (1 : Int32)) = (2 : Int32) from by decide]
  show Done p e below s _ _ _ (s₁.setTop (mkF m 32 #[.val (.ref a1), .val (.double (FP.dadd (FP.dadd FP.dconst0 v0) v1)), .second, .val (.ref a1), .val (.int (3 : Int32)), .val (.int (2 : Int32)), .val (.double v1), .second] []))
  refine Done.step (fun t k => XS.goto X0.here hx rfl (pc0 := 32) (pc' := 11) rfl (hb hby d1_32) (by decide) (by decide) k) ?_
  show Done p e below s _ _ _ (s₁.setTop (mkF m 11 #[.val (.ref a1), .val (.double (FP.dadd (FP.dadd FP.dconst0 v0) v1)), .second, .val (.ref a1), .val (.int (3 : Int32)), .val (.int (2 : Int32)), .val (.double v1), .second] []))
  refine Done.step (fun t k => XS.iload X0.here hx rfl (hb hby d1_11) rfl k) ?_
  show Done p e below s _ _ _ (s₁.setTop (mkF m 13 #[.val (.ref a1), .val (.double (FP.dadd (FP.dadd FP.dconst0 v0) v1)), .second, .val (.ref a1), .val (.int (3 : Int32)), .val (.int (2 : Int32)), .val (.double v1), .second] [(.int (2 : Int32))]))
  refine Done.step (fun t k => XS.iload X0.here hx rfl (hb hby d1_13) rfl k) ?_
  show Done p e below s _ _ _ (s₁.setTop (mkF m 15 #[.val (.ref a1), .val (.double (FP.dadd (FP.dadd FP.dconst0 v0) v1)), .second, .val (.ref a1), .val (.int (3 : Int32)), .val (.int (2 : Int32)), .val (.double v1), .second] [(.int (3 : Int32)), (.int (2 : Int32))]))
  refine Done.step (fun t k => XS.icmpNo X0.here hx rfl (hb hby d1_15) rfl (tlt (by decide)).2.1 k) ?_
  show Done p e below s _ _ _ (s₁.setTop (mkF m 18 #[.val (.ref a1), .val (.double (FP.dadd (FP.dadd FP.dconst0 v0) v1)), .second, .val (.ref a1), .val (.int (3 : Int32)), .val (.int (2 : Int32)), .val (.double v1), .second] []))
  refine Done.step (fun t k => XS.aloadN X0.here hx rfl (hb hby d1_18) rfl rfl k) ?_
  show Done p e below s _ _ _ (s₁.setTop (mkF m 19 #[.val (.ref a1), .val (.double (FP.dadd (FP.dadd FP.dconst0 v0) v1)), .second, .val (.ref a1), .val (.int (3 : Int32)), .val (.int (2 : Int32)), .val (.double v1), .second] [(.ref a1)]))
  refine Done.step (fun t k => XS.iload X0.here hx rfl (hb hby d1_19) rfl k) ?_
  show Done p e below s _ _ _ (s₁.setTop (mkF m 21 #[.val (.ref a1), .val (.double (FP.dadd (FP.dadd FP.dconst0 v0) v1)), .second, .val (.ref a1), .val (.int (3 : Int32)), .val (.int (2 : Int32)), .val (.double v1), .second] [(.int (2 : Int32)), (.ref a1)]))
  refine Done.step (ldD X0 hx hZ e0 A1 (j := (2 : Int32)) (x := (.double v2)) (by decide) rfl (g := (mkF m 21 #[.val (.ref a1), .val (.double (FP.dadd (FP.dadd FP.dconst0 v0) v1)), .second, .val (.ref a1), .val (.int (3 : Int32)), .val (.int (2 : Int32)), .val (.double v1), .second] [(.int (2 : Int32)), (.ref a1)])) rfl rfl (hb hby d1_21)) ?_
  show Done p e below s _ _ _ (s₁.setTop (mkF m 22 #[.val (.ref a1), .val (.double (FP.dadd (FP.dadd FP.dconst0 v0) v1)), .second, .val (.ref a1), .val (.int (3 : Int32)), .val (.int (2 : Int32)), .val (.double v1), .second] [(.double v2)]))
  refine Done.step (fun t k => XS.dstore X0.here hx rfl (hb hby d1_22) rfl (l' := #[.val (.ref a1), .val (.double (FP.dadd (FP.dadd FP.dconst0 v0) v1)), .second, .val (.ref a1), .val (.int (3 : Int32)), .val (.int (2 : Int32)), .val (.double v2), .second]) rfl k) ?_
  show Done p e below s _ _ _ (s₁.setTop (mkF m 24 #[.val (.ref a1), .val (.double (FP.dadd (FP.dadd FP.dconst0 v0) v1)), .second, .val (.ref a1), .val (.int (3 : Int32)), .val (.int (2 : Int32)), .val (.double v2), .second] []))
  refine Done.step (fun t k => XS.dloadN X0.here hx rfl (hb hby d1_24) rfl k) ?_
  show Done p e below s _ _ _ (s₁.setTop (mkF m 25 #[.val (.ref a1), .val (.double (FP.dadd (FP.dadd FP.dconst0 v0) v1)), .second, .val (.ref a1), .val (.int (3 : Int32)), .val (.int (2 : Int32)), .val (.double v2), .second] [(.double (FP.dadd (FP.dadd FP.dconst0 v0) v1))]))
  refine Done.step (fun t k => XS.dload X0.here hx rfl (hb hby d1_25) rfl k) ?_
  show Done p e below s _ _ _ (s₁.setTop (mkF m 27 #[.val (.ref a1), .val (.double (FP.dadd (FP.dadd FP.dconst0 v0) v1)), .second, .val (.ref a1), .val (.int (3 : Int32)), .val (.int (2 : Int32)), .val (.double v2), .second] [(.double v2), (.double (FP.dadd (FP.dadd FP.dconst0 v0) v1))]))
  refine Done.step (fun t k => XS.daddS X0.here hx rfl (hb hby d1_27) rfl (Jvm.Free.Fl.dadd_out (Jvm.Free.Fl.dadd_out (Jvm.Free.Fl.dadd_out own_z hf0) hf1) hf2) rfl k) ?_
  show Done p e below s _ _ _ (s₁.setTop (mkF m 28 #[.val (.ref a1), .val (.double (FP.dadd (FP.dadd FP.dconst0 v0) v1)), .second, .val (.ref a1), .val (.int (3 : Int32)), .val (.int (2 : Int32)), .val (.double v2), .second] [(.double (FP.dadd (FP.dadd (FP.dadd FP.dconst0 v0) v1) v2))]))
  refine Done.step (fun t k => XS.dstoreN X0.here hx rfl (hb hby d1_28) rfl (l' := #[.val (.ref a1), .val (.double (FP.dadd (FP.dadd (FP.dadd FP.dconst0 v0) v1) v2)), .second, .val (.ref a1), .val (.int (3 : Int32)), .val (.int (2 : Int32)), .val (.double v2), .second]) rfl k) ?_
  show Done p e below s _ _ _ (s₁.setTop (mkF m 29 #[.val (.ref a1), .val (.double (FP.dadd (FP.dadd (FP.dadd FP.dconst0 v0) v1) v2)), .second, .val (.ref a1), .val (.int (3 : Int32)), .val (.int (2 : Int32)), .val (.double v2), .second] []))
  refine Done.step (fun t k => XS.iinc X0.here hx rfl (hb hby d1_29) rfl (l' := #[.val (.ref a1), .val (.double (FP.dadd (FP.dadd (FP.dadd FP.dconst0 v0) v1) v2)), .second, .val (.ref a1), .val (.int (3 : Int32)), .val (.int ((2 : Int32) + (1 : Int32))), .val (.double v2), .second]) rfl k) ?_
  show Done p e below s _ _ _ (s₁.setTop (mkF m 32 #[.val (.ref a1), .val (.double (FP.dadd (FP.dadd (FP.dadd FP.dconst0 v0) v1) v2)), .second, .val (.ref a1), .val (.int (3 : Int32)), .val (.int ((2 : Int32) + (1 : Int32))), .val (.double v2), .second] []))
  rw [show ((2 : Int32) + (1 : Int32)) = (3 : Int32) from by decide]
  show Done p e below s _ _ _ (s₁.setTop (mkF m 32 #[.val (.ref a1), .val (.double (FP.dadd (FP.dadd (FP.dadd FP.dconst0 v0) v1) v2)), .second, .val (.ref a1), .val (.int (3 : Int32)), .val (.int (3 : Int32)), .val (.double v2), .second] []))
  refine Done.step (fun t k => XS.goto X0.here hx rfl (pc0 := 32) (pc' := 11) rfl (hb hby d1_32) (by decide) (by decide) k) ?_
  show Done p e below s _ _ _ (s₁.setTop (mkF m 11 #[.val (.ref a1), .val (.double (FP.dadd (FP.dadd (FP.dadd FP.dconst0 v0) v1) v2)), .second, .val (.ref a1), .val (.int (3 : Int32)), .val (.int (3 : Int32)), .val (.double v2), .second] []))
  refine Done.step (fun t k => XS.iload X0.here hx rfl (hb hby d1_11) rfl k) ?_
  show Done p e below s _ _ _ (s₁.setTop (mkF m 13 #[.val (.ref a1), .val (.double (FP.dadd (FP.dadd (FP.dadd FP.dconst0 v0) v1) v2)), .second, .val (.ref a1), .val (.int (3 : Int32)), .val (.int (3 : Int32)), .val (.double v2), .second] [(.int (3 : Int32))]))
  refine Done.step (fun t k => XS.iload X0.here hx rfl (hb hby d1_13) rfl k) ?_
  show Done p e below s _ _ _ (s₁.setTop (mkF m 15 #[.val (.ref a1), .val (.double (FP.dadd (FP.dadd (FP.dadd FP.dconst0 v0) v1) v2)), .second, .val (.ref a1), .val (.int (3 : Int32)), .val (.int (3 : Int32)), .val (.double v2), .second] [(.int (3 : Int32)), (.int (3 : Int32))]))
  refine Done.step (fun t k => XS.icmpYes X0.here hx rfl (pc0 := 15) (pc' := 35) rfl (hb hby d1_15) rfl (flt (by decide)).2.1 (by decide) (by decide) k) ?_
  show Done p e below s _ _ _ (s₁.setTop (mkF m 35 #[.val (.ref a1), .val (.double (FP.dadd (FP.dadd (FP.dadd FP.dconst0 v0) v1) v2)), .second, .val (.ref a1), .val (.int (3 : Int32)), .val (.int (3 : Int32)), .val (.double v2), .second] []))
  refine Done.step (fun t k => XS.dloadN X0.here hx rfl (hb hby d1_35) rfl k) ?_
  show Done p e below s _ _ _ (s₁.setTop (mkF m 36 #[.val (.ref a1), .val (.double (FP.dadd (FP.dadd (FP.dadd FP.dconst0 v0) v1) v2)), .second, .val (.ref a1), .val (.int (3 : Int32)), .val (.int (3 : Int32)), .val (.double v2), .second] [(.double (FP.dadd (FP.dadd (FP.dadd FP.dconst0 v0) v1) v2))]))
  exact Done.double X0 hx hlk hret (hb hby d1_36) (by decide) (by decide) ⟨rfl, N0, e0⟩
def Qrms4 (Z : State) (a1 : Addr) (v0 v1 v2 v3 : UInt64) (h0 : Heap) (n0 : Nat) : Option Value → Heap → List Loc → Prop := fun v h L => v = some (.double (FP.dadd (FP.dadd (FP.dadd (FP.dadd FP.dconst0 v0) v1) v2) v3)) ∧ Fr n0 L ∧ h = h0
set_option maxRecDepth 65536 in
set_option maxHeartbeats 40000000 in
theorem rms4 (l : Launch) (Z : State) (a0 : Array Value) (hw : ∀ d ∈ tables_1, d.before a0 Z = true) (ws : List Jvm.Cond) (a1 : Addr) (v0 v1 v2 v3 : UInt64) (h0 : Heap) (n0 : Nat) (Z0 : n0 ≤ h0.size) (A1 : Ax Z h0 a1 .double [(.double v0), (.double v1), (.double v2), (.double v3)]) (hf0 : Jvm.Free.Fl.Fin64 v0) (hf1 : Jvm.Free.Fl.Fin64 v1) (hf2 : Jvm.Free.Fl.Fin64 v2) (hf3 : Jvm.Free.Fl.Fin64 v3) :
    MetFree l (⟨"com/example/wardsum/wardsum/algorithm/TargetNodes", "sum", "([D)D"⟩ : MethodName) (head1 (Jvm.Cond.code (⟨"com/example/wardsum/wardsum/algorithm/TargetNodes", "sum", "([D)D"⟩ : MethodName) prog_17_method_5_code 8 (some .double) :: ws) ({ frames := 0, cells := 0, slots := 0, locals := 0 } : Room)) (fun a U => a = #[(.ref a1)] ∧ Z.Warmed39 U.vm ∧ U.heap = h0) (fun _ _ _ _ _ => True) (fun _ U o U' => ∃ v L, o = .returned v ∧ Qrms4 Z a1 v0 v1 v2 v3 h0 n0 v U'.heap L ∧ FrameEnd U o U' L ({ frames := 0, cells := 0, slots := 0, locals := 0 } : Room).cells ({ frames := 0, cells := 0, slots := 0, locals := 0 } : Room).slots) := by
  refine MetFree.of_bodySF (plainFor_of_name pn_1) hisR ?_
  intro p e s m args below meth c s₁ Bd hml0 hP hK
  obtain ⟨rfl, hZ, hhp⟩ := hP
  have hx := Bd.exec
  have hby := Bd.bytes
  have hml : c.maxLocals = 8 := hml0
  have hown : s.vm.findClass "com/example/wardsum/wardsum/algorithm/TargetNodes" = some m.cls := findClass_of_methodNamed Bd.named
  have hnm := (name_of_methodNamed Bd.named Bd.method).1
  have hlk : meth.locks = false := BodyLoose.notSynchronized Bd
  have hret := Bd.returns
  have X0 : Stand p l e ({ frames := 0, cells := 0, slots := 0, locals := 0 } : Room) s m #[(.ref a1)] below meth c s₁ [] 0 0 := Stand.of_body Bd
  have e0 : s₁.heap = h0 := by rw [← hhp, Bd.state]; rfl
  have N0 := Fr.nil n0
  show Done p e below s (Qrms4 Z a1 v0 v1 v2 v3 h0 n0) ({ frames := 0, cells := 0, slots := 0, locals := 0 } : Room).cells ({ frames := 0, cells := 0, slots := 0, locals := 0 } : Room).slots (s₁.setTop (entryFrame m #[(.ref a1)] 8))
  refine Done.step (fun t k => castTop (ef_1 m a1) k) ?_
  show Done p e below s _ _ _ (s₁.setTop (mkF m 0 #[.val (.ref a1), .unset, .unset, .unset, .unset, .unset, .unset, .unset] []))
  refine Done.step (fun t k => XS.dconst0 X0.here hx rfl (hb hby d1_0) rfl k) ?_
  show Done p e below s _ _ _ (s₁.setTop (mkF m 1 #[.val (.ref a1), .unset, .unset, .unset, .unset, .unset, .unset, .unset] [(.double FP.dconst0)]))
  refine Done.step (fun t k => XS.dstoreN X0.here hx rfl (hb hby d1_1) rfl (l' := #[.val (.ref a1), .val (.double FP.dconst0), .second, .unset, .unset, .unset, .unset, .unset]) rfl k) ?_
  show Done p e below s _ _ _ (s₁.setTop (mkF m 2 #[.val (.ref a1), .val (.double FP.dconst0), .second, .unset, .unset, .unset, .unset, .unset] []))
  refine Done.step (fun t k => XS.aloadN X0.here hx rfl (hb hby d1_2) rfl rfl k) ?_
  show Done p e below s _ _ _ (s₁.setTop (mkF m 3 #[.val (.ref a1), .val (.double FP.dconst0), .second, .unset, .unset, .unset, .unset, .unset] [(.ref a1)]))
  refine Done.step (fun t k => XS.astoreN X0.here hx rfl (hb hby d1_3) rfl rfl (l' := #[.val (.ref a1), .val (.double FP.dconst0), .second, .val (.ref a1), .unset, .unset, .unset, .unset]) rfl k) ?_
  show Done p e below s _ _ _ (s₁.setTop (mkF m 4 #[.val (.ref a1), .val (.double FP.dconst0), .second, .val (.ref a1), .unset, .unset, .unset, .unset] []))
  refine Done.step (fun t k => XS.aloadN X0.here hx rfl (hb hby d1_4) rfl rfl k) ?_
  show Done p e below s _ _ _ (s₁.setTop (mkF m 5 #[.val (.ref a1), .val (.double FP.dconst0), .second, .val (.ref a1), .unset, .unset, .unset, .unset] [(.ref a1)]))
  refine Done.step (lenA X0 hx hZ e0 A1 (n := (4 : Int32)) rfl (g := (mkF m 5 #[.val (.ref a1), .val (.double FP.dconst0), .second, .val (.ref a1), .unset, .unset, .unset, .unset] [(.ref a1)])) rfl rfl (hb hby d1_5)) ?_
  show Done p e below s _ _ _ (s₁.setTop (mkF m 6 #[.val (.ref a1), .val (.double FP.dconst0), .second, .val (.ref a1), .unset, .unset, .unset, .unset] [(.int (4 : Int32))]))
  refine Done.step (fun t k => XS.istore X0.here hx rfl (hb hby d1_6) rfl (l' := #[.val (.ref a1), .val (.double FP.dconst0), .second, .val (.ref a1), .val (.int (4 : Int32)), .unset, .unset, .unset]) rfl k) ?_
  show Done p e below s _ _ _ (s₁.setTop (mkF m 8 #[.val (.ref a1), .val (.double FP.dconst0), .second, .val (.ref a1), .val (.int (4 : Int32)), .unset, .unset, .unset] []))
  refine Done.step (fun t k => XS.iconst X0.here hx rfl (hb hby d1_8) k) ?_
  show Done p e below s _ _ _ (s₁.setTop (mkF m 9 #[.val (.ref a1), .val (.double FP.dconst0), .second, .val (.ref a1), .val (.int (4 : Int32)), .unset, .unset, .unset] [(.int (0 : Int32))]))
  refine Done.step (fun t k => XS.istore X0.here hx rfl (hb hby d1_9) rfl (l' := #[.val (.ref a1), .val (.double FP.dconst0), .second, .val (.ref a1), .val (.int (4 : Int32)), .val (.int (0 : Int32)), .unset, .unset]) rfl k) ?_
  show Done p e below s _ _ _ (s₁.setTop (mkF m 11 #[.val (.ref a1), .val (.double FP.dconst0), .second, .val (.ref a1), .val (.int (4 : Int32)), .val (.int (0 : Int32)), .unset, .unset] []))
  refine Done.step (fun t k => XS.iload X0.here hx rfl (hb hby d1_11) rfl k) ?_
  show Done p e below s _ _ _ (s₁.setTop (mkF m 13 #[.val (.ref a1), .val (.double FP.dconst0), .second, .val (.ref a1), .val (.int (4 : Int32)), .val (.int (0 : Int32)), .unset, .unset] [(.int (0 : Int32))]))
  refine Done.step (fun t k => XS.iload X0.here hx rfl (hb hby d1_13) rfl k) ?_
  show Done p e below s _ _ _ (s₁.setTop (mkF m 15 #[.val (.ref a1), .val (.double FP.dconst0), .second, .val (.ref a1), .val (.int (4 : Int32)), .val (.int (0 : Int32)), .unset, .unset] [(.int (4 : Int32)), (.int (0 : Int32))]))
  refine Done.step (fun t k => XS.icmpNo X0.here hx rfl (hb hby d1_15) rfl (tlt (by decide)).2.1 k) ?_
  show Done p e below s _ _ _ (s₁.setTop (mkF m 18 #[.val (.ref a1), .val (.double FP.dconst0), .second, .val (.ref a1), .val (.int (4 : Int32)), .val (.int (0 : Int32)), .unset, .unset] []))
  refine Done.step (fun t k => XS.aloadN X0.here hx rfl (hb hby d1_18) rfl rfl k) ?_
  show Done p e below s _ _ _ (s₁.setTop (mkF m 19 #[.val (.ref a1), .val (.double FP.dconst0), .second, .val (.ref a1), .val (.int (4 : Int32)), .val (.int (0 : Int32)), .unset, .unset] [(.ref a1)]))
  refine Done.step (fun t k => XS.iload X0.here hx rfl (hb hby d1_19) rfl k) ?_
  show Done p e below s _ _ _ (s₁.setTop (mkF m 21 #[.val (.ref a1), .val (.double FP.dconst0), .second, .val (.ref a1), .val (.int (4 : Int32)), .val (.int (0 : Int32)), .unset, .unset] [(.int (0 : Int32)), (.ref a1)]))
  refine Done.step (ldD X0 hx hZ e0 A1 (j := (0 : Int32)) (x := (.double v0)) (by decide) rfl (g := (mkF m 21 #[.val (.ref a1), .val (.double FP.dconst0), .second, .val (.ref a1), .val (.int (4 : Int32)), .val (.int (0 : Int32)), .unset, .unset] [(.int (0 : Int32)), (.ref a1)])) rfl rfl (hb hby d1_21)) ?_
  show Done p e below s _ _ _ (s₁.setTop (mkF m 22 #[.val (.ref a1), .val (.double FP.dconst0), .second, .val (.ref a1), .val (.int (4 : Int32)), .val (.int (0 : Int32)), .unset, .unset] [(.double v0)]))
  refine Done.step (fun t k => XS.dstore X0.here hx rfl (hb hby d1_22) rfl (l' := #[.val (.ref a1), .val (.double FP.dconst0), .second, .val (.ref a1), .val (.int (4 : Int32)), .val (.int (0 : Int32)), .val (.double v0), .second]) rfl k) ?_
  show Done p e below s _ _ _ (s₁.setTop (mkF m 24 #[.val (.ref a1), .val (.double FP.dconst0), .second, .val (.ref a1), .val (.int (4 : Int32)), .val (.int (0 : Int32)), .val (.double v0), .second] []))
  refine Done.step (fun t k => XS.dloadN X0.here hx rfl (hb hby d1_24) rfl k) ?_
  show Done p e below s _ _ _ (s₁.setTop (mkF m 25 #[.val (.ref a1), .val (.double FP.dconst0), .second, .val (.ref a1), .val (.int (4 : Int32)), .val (.int (0 : Int32)), .val (.double v0), .second] [(.double FP.dconst0)]))
  refine Done.step (fun t k => XS.dload X0.here hx rfl (hb hby d1_25) rfl k) ?_
  show Done p e below s _ _ _ (s₁.setTop (mkF m 27 #[.val (.ref a1), .val (.double FP.dconst0), .second, .val (.ref a1), .val (.int (4 : Int32)), .val (.int (0 : Int32)), .val (.double v0), .second] [(.double v0), (.double FP.dconst0)]))
  refine Done.step (fun t k => XS.daddS X0.here hx rfl (hb hby d1_27) rfl (Jvm.Free.Fl.dadd_out own_z hf0) rfl k) ?_
  show Done p e below s _ _ _ (s₁.setTop (mkF m 28 #[.val (.ref a1), .val (.double FP.dconst0), .second, .val (.ref a1), .val (.int (4 : Int32)), .val (.int (0 : Int32)), .val (.double v0), .second] [(.double (FP.dadd FP.dconst0 v0))]))
  refine Done.step (fun t k => XS.dstoreN X0.here hx rfl (hb hby d1_28) rfl (l' := #[.val (.ref a1), .val (.double (FP.dadd FP.dconst0 v0)), .second, .val (.ref a1), .val (.int (4 : Int32)), .val (.int (0 : Int32)), .val (.double v0), .second]) rfl k) ?_
  show Done p e below s _ _ _ (s₁.setTop (mkF m 29 #[.val (.ref a1), .val (.double (FP.dadd FP.dconst0 v0)), .second, .val (.ref a1), .val (.int (4 : Int32)), .val (.int (0 : Int32)), .val (.double v0), .second] []))
  refine Done.step (fun t k => XS.iinc X0.here hx rfl (hb hby d1_29) rfl (l' := #[.val (.ref a1), .val (.double (FP.dadd FP.dconst0 v0)), .second, .val (.ref a1), .val (.int (4 : Int32)), .val (.int ((0 : Int32) + (1 : Int32))), .val (.double v0), .second]) rfl k) ?_
  show Done p e below s _ _ _ (s₁.setTop (mkF m 32 #[.val (.ref a1), .val (.double (FP.dadd FP.dconst0 v0)), .second, .val (.ref a1), .val (.int (4 : Int32)), .val (.int ((0 : Int32) + (1 : Int32))), .val (.double v0), .second] []))
  rw [show ((0 : Int32) + (1 : Int32)) = (1 : Int32) from by decide]
  show Done p e below s _ _ _ (s₁.setTop (mkF m 32 #[.val (.ref a1), .val (.double (FP.dadd FP.dconst0 v0)), .second, .val (.ref a1), .val (.int (4 : Int32)), .val (.int (1 : Int32)), .val (.double v0), .second] []))
  refine Done.step (fun t k => XS.goto X0.here hx rfl (pc0 := 32) (pc' := 11) rfl (hb hby d1_32) (by decide) (by decide) k) ?_
  show Done p e below s _ _ _ (s₁.setTop (mkF m 11 #[.val (.ref a1), .val (.double (FP.dadd FP.dconst0 v0)), .second, .val (.ref a1), .val (.int (4 : Int32)), .val (.int (1 : Int32)), .val (.double v0), .second] []))
  refine Done.step (fun t k => XS.iload X0.here hx rfl (hb hby d1_11) rfl k) ?_
  show Done p e below s _ _ _ (s₁.setTop (mkF m 13 #[.val (.ref a1), .val (.double (FP.dadd FP.dconst0 v0)), .second, .val (.ref a1), .val (.int (4 : Int32)), .val (.int (1 : Int32)), .val (.double v0), .second] [(.int (1 : Int32))]))
  refine Done.step (fun t k => XS.iload X0.here hx rfl (hb hby d1_13) rfl k) ?_
  show Done p e below s _ _ _ (s₁.setTop (mkF m 15 #[.val (.ref a1), .val (.double (FP.dadd FP.dconst0 v0)), .second, .val (.ref a1), .val (.int (4 : Int32)), .val (.int (1 : Int32)), .val (.double v0), .second] [(.int (4 : Int32)), (.int (1 : Int32))]))
  refine Done.step (fun t k => XS.icmpNo X0.here hx rfl (hb hby d1_15) rfl (tlt (by decide)).2.1 k) ?_
  show Done p e below s _ _ _ (s₁.setTop (mkF m 18 #[.val (.ref a1), .val (.double (FP.dadd FP.dconst0 v0)), .second, .val (.ref a1), .val (.int (4 : Int32)), .val (.int (1 : Int32)), .val (.double v0), .second] []))
  refine Done.step (fun t k => XS.aloadN X0.here hx rfl (hb hby d1_18) rfl rfl k) ?_
  show Done p e below s _ _ _ (s₁.setTop (mkF m 19 #[.val (.ref a1), .val (.double (FP.dadd FP.dconst0 v0)), .second, .val (.ref a1), .val (.int (4 : Int32)), .val (.int (1 : Int32)), .val (.double v0), .second] [(.ref a1)]))
  refine Done.step (fun t k => XS.iload X0.here hx rfl (hb hby d1_19) rfl k) ?_
  show Done p e below s _ _ _ (s₁.setTop (mkF m 21 #[.val (.ref a1), .val (.double (FP.dadd FP.dconst0 v0)), .second, .val (.ref a1), .val (.int (4 : Int32)), .val (.int (1 : Int32)), .val (.double v0), .second] [(.int (1 : Int32)), (.ref a1)]))
  refine Done.step (ldD X0 hx hZ e0 A1 (j := (1 : Int32)) (x := (.double v1)) (by decide) rfl (g := (mkF m 21 #[.val (.ref a1), .val (.double (FP.dadd FP.dconst0 v0)), .second, .val (.ref a1), .val (.int (4 : Int32)), .val (.int (1 : Int32)), .val (.double v0), .second] [(.int (1 : Int32)), (.ref a1)])) rfl rfl (hb hby d1_21)) ?_
  show Done p e below s _ _ _ (s₁.setTop (mkF m 22 #[.val (.ref a1), .val (.double (FP.dadd FP.dconst0 v0)), .second, .val (.ref a1), .val (.int (4 : Int32)), .val (.int (1 : Int32)), .val (.double v0), .second] [(.double v1)]))
  refine Done.step (fun t k => XS.dstore X0.here hx rfl (hb hby d1_22) rfl (l' := #[.val (.ref a1), .val (.double (FP.dadd FP.dconst0 v0)), .second, .val (.ref a1), .val (.int (4 : Int32)), .val (.int (1 : Int32)), .val (.double v1), .second]) rfl k) ?_
  show Done p e below s _ _ _ (s₁.setTop (mkF m 24 #[.val (.ref a1), .val (.double (FP.dadd FP.dconst0 v0)), .second, .val (.ref a1), .val (.int (4 : Int32)), .val (.int (1 : Int32)), .val (.double v1), .second] []))
  refine Done.step (fun t k => XS.dloadN X0.here hx rfl (hb hby d1_24) rfl k) ?_
  show Done p e below s _ _ _ (s₁.setTop (mkF m 25 #[.val (.ref a1), .val (.double (FP.dadd FP.dconst0 v0)), .second, .val (.ref a1), .val (.int (4 : Int32)), .val (.int (1 : Int32)), .val (.double v1), .second] [(.double (FP.dadd FP.dconst0 v0))]))
  refine Done.step (fun t k => XS.dload X0.here hx rfl (hb hby d1_25) rfl k) ?_
  show Done p e below s _ _ _ (s₁.setTop (mkF m 27 #[.val (.ref a1), .val (.double (FP.dadd FP.dconst0 v0)), .second, .val (.ref a1), .val (.int (4 : Int32)), .val (.int (1 : Int32)), .val (.double v1), .second] [(.double v1), (.double (FP.dadd FP.dconst0 v0))]))
  refine Done.step (fun t k => XS.daddS X0.here hx rfl (hb hby d1_27) rfl (Jvm.Free.Fl.dadd_out (Jvm.Free.Fl.dadd_out own_z hf0) hf1) rfl k) ?_
  show Done p e below s _ _ _ (s₁.setTop (mkF m 28 #[.val (.ref a1), .val (.double (FP.dadd FP.dconst0 v0)), .second, .val (.ref a1), .val (.int (4 : Int32)), .val (.int (1 : Int32)), .val (.double v1), .second] [(.double (FP.dadd (FP.dadd FP.dconst0 v0) v1))]))
  refine Done.step (fun t k => XS.dstoreN X0.here hx rfl (hb hby d1_28) rfl (l' := #[.val (.ref a1), .val (.double (FP.dadd (FP.dadd FP.dconst0 v0) v1)), .second, .val (.ref a1), .val (.int (4 : Int32)), .val (.int (1 : Int32)), .val (.double v1), .second]) rfl k) ?_
  show Done p e below s _ _ _ (s₁.setTop (mkF m 29 #[.val (.ref a1), .val (.double (FP.dadd (FP.dadd FP.dconst0 v0) v1)), .second, .val (.ref a1), .val (.int (4 : Int32)), .val (.int (1 : Int32)), .val (.double v1), .second] []))
  refine Done.step (fun t k => XS.iinc X0.here hx rfl (hb hby d1_29) rfl (l' := #[.val (.ref a1), .val (.double (FP.dadd (FP.dadd FP.dconst0 v0) v1)), .second, .val (.ref a1), .val (.int (4 : Int32)), .val (.int ((1 : Int32) + (1 : Int32))), .val (.double v1), .second]) rfl k) ?_
  show Done p e below s _ _ _ (s₁.setTop (mkF m 32 #[.val (.ref a1), .val (.double (FP.dadd (FP.dadd FP.dconst0 v0) v1)), .second, .val (.ref a1), .val (.int (4 : Int32)), .val (.int ((1 : Int32) + (1 : Int32))), .val (.double v1), .second] []))
  rw [show ((1 : Int32) + (1 : Int32)) = (2 : Int32) from by decide]
  show Done p e below s _ _ _ (s₁.setTop (mkF m 32 #[.val (.ref a1), .val (.double (FP.dadd (FP.dadd FP.dconst0 v0) v1)), .second, .val (.ref a1), .val (.int (4 : Int32)), .val (.int (2 : Int32)), .val (.double v1), .second] []))
  refine Done.step (fun t k => XS.goto X0.here hx rfl (pc0 := 32) (pc' := 11) rfl (hb hby d1_32) (by decide) (by decide) k) ?_
  show Done p e below s _ _ _ (s₁.setTop (mkF m 11 #[.val (.ref a1), .val (.double (FP.dadd (FP.dadd FP.dconst0 v0) v1)), .second, .val (.ref a1), .val (.int (4 : Int32)), .val (.int (2 : Int32)), .val (.double v1), .second] []))
  refine Done.step (fun t k => XS.iload X0.here hx rfl (hb hby d1_11) rfl k) ?_
  show Done p e below s _ _ _ (s₁.setTop (mkF m 13 #[.val (.ref a1), .val (.double (FP.dadd (FP.dadd FP.dconst0 v0) v1)), .second, .val (.ref a1), .val (.int (4 : Int32)), .val (.int (2 : Int32)), .val (.double v1), .second] [(.int (2 : Int32))]))
  refine Done.step (fun t k => XS.iload X0.here hx rfl (hb hby d1_13) rfl k) ?_
  show Done p e below s _ _ _ (s₁.setTop (mkF m 15 #[.val (.ref a1), .val (.double (FP.dadd (FP.dadd FP.dconst0 v0) v1)), .second, .val (.ref a1), .val (.int (4 : Int32)), .val (.int (2 : Int32)), .val (.double v1), .second] [(.int (4 : Int32)), (.int (2 : Int32))]))
  refine Done.step (fun t k => XS.icmpNo X0.here hx rfl (hb hby d1_15) rfl (tlt (by decide)).2.1 k) ?_
  show Done p e below s _ _ _ (s₁.setTop (mkF m 18 #[.val (.ref a1), .val (.double (FP.dadd (FP.dadd FP.dconst0 v0) v1)), .second, .val (.ref a1), .val (.int (4 : Int32)), .val (.int (2 : Int32)), .val (.double v1), .second] []))
  refine Done.step (fun t k => XS.aloadN X0.here hx rfl (hb hby d1_18) rfl rfl k) ?_
  show Done p e below s _ _ _ (s₁.setTop (mkF m 19 #[.val (.ref a1), .val (.double (FP.dadd (FP.dadd FP.dconst0 v0) v1)), .second, .val (.ref a1), .val (.int (4 : Int32)), .val (.int (2 : Int32)), .val (.double v1), .second] [(.ref a1)]))
  refine Done.step (fun t k => XS.iload X0.here hx rfl (hb hby d1_19) rfl k) ?_
  show Done p e below s _ _ _ (s₁.setTop (mkF m 21 #[.val (.ref a1), .val (.double (FP.dadd (FP.dadd FP.dconst0 v0) v1)), .second, .val (.ref a1), .val (.int (4 : Int32)), .val (.int (2 : Int32)), .val (.double v1), .second] [(.int (2 : Int32)), (.ref a1)]))
  refine Done.step (ldD X0 hx hZ e0 A1 (j := (2 : Int32)) (x := (.double v2)) (by decide) rfl (g := (mkF m 21 #[.val (.ref a1), .val (.double (FP.dadd (FP.dadd FP.dconst0 v0) v1)), .second, .val (.ref a1), .val (.int (4 : Int32)), .val (.int (2 : Int32)), .val (.double v1), .second] [(.int (2 : Int32)), (.ref a1)])) rfl rfl (hb hby d1_21)) ?_
  show Done p e below s _ _ _ (s₁.setTop (mkF m 22 #[.val (.ref a1), .val (.double (FP.dadd (FP.dadd FP.dconst0 v0) v1)), .second, .val (.ref a1), .val (.int (4 : Int32)), .val (.int (2 : Int32)), .val (.double v1), .second] [(.double v2)]))
  refine Done.step (fun t k => XS.dstore X0.here hx rfl (hb hby d1_22) rfl (l' := #[.val (.ref a1), .val (.double (FP.dadd (FP.dadd FP.dconst0 v0) v1)), .second, .val (.ref a1), .val (.int (4 : Int32)), .val (.int (2 : Int32)), .val (.double v2), .second]) rfl k) ?_
  show Done p e below s _ _ _ (s₁.setTop (mkF m 24 #[.val (.ref a1), .val (.double (FP.dadd (FP.dadd FP.dconst0 v0) v1)), .second, .val (.ref a1), .val (.int (4 : Int32)), .val (.int (2 : Int32)), .val (.double v2), .second] []))
  refine Done.step (fun t k => XS.dloadN X0.here hx rfl (hb hby d1_24) rfl k) ?_
  show Done p e below s _ _ _ (s₁.setTop (mkF m 25 #[.val (.ref a1), .val (.double (FP.dadd (FP.dadd FP.dconst0 v0) v1)), .second, .val (.ref a1), .val (.int (4 : Int32)), .val (.int (2 : Int32)), .val (.double v2), .second] [(.double (FP.dadd (FP.dadd FP.dconst0 v0) v1))]))
  refine Done.step (fun t k => XS.dload X0.here hx rfl (hb hby d1_25) rfl k) ?_
  show Done p e below s _ _ _ (s₁.setTop (mkF m 27 #[.val (.ref a1), .val (.double (FP.dadd (FP.dadd FP.dconst0 v0) v1)), .second, .val (.ref a1), .val (.int (4 : Int32)), .val (.int (2 : Int32)), .val (.double v2), .second] [(.double v2), (.double (FP.dadd (FP.dadd FP.dconst0 v0) v1))]))
  refine Done.step (fun t k => XS.daddS X0.here hx rfl (hb hby d1_27) rfl (Jvm.Free.Fl.dadd_out (Jvm.Free.Fl.dadd_out (Jvm.Free.Fl.dadd_out own_z hf0) hf1) hf2) rfl k) ?_
  show Done p e below s _ _ _ (s₁.setTop (mkF m 28 #[.val (.ref a1), .val (.double (FP.dadd (FP.dadd FP.dconst0 v0) v1)), .second, .val (.ref a1), .val (.int (4 : Int32)), .val (.int (2 : Int32)), .val (.double v2), .second] [(.double (FP.dadd (FP.dadd (FP.dadd FP.dconst0 v0) v1) v2))]))
  refine Done.step (fun t k => XS.dstoreN X0.here hx rfl (hb hby d1_28) rfl (l' := #[.val (.ref a1), .val (.double (FP.dadd (FP.dadd (FP.dadd FP.dconst0 v0) v1) v2)), .second, .val (.ref a1), .val (.int (4 : Int32)), .val (.int (2 : Int32)), .val (.double v2), .second]) rfl k) ?_
  show Done p e below s _ _ _ (s₁.setTop (mkF m 29 #[.val (.ref a1), .val (.double (FP.dadd (FP.dadd (FP.dadd FP.dconst0 v0) v1) v2)), .second, .val (.ref a1), .val (.int (4 : Int32)), .val (.int (2 : Int32)), .val (.double v2), .second] []))
  refine Done.step (fun t k => XS.iinc X0.here hx rfl (hb hby d1_29) rfl (l' := #[.val (.ref a1), .val (.double (FP.dadd (FP.dadd (FP.dadd FP.dconst0 v0) v1) v2)), .second, .val (.ref a1), .val (.int (4 : Int32)), .val (.int ((2 : Int32) + (1 : Int32))), .val (.double v2), .second]) rfl k) ?_
  show Done p e below s _ _ _ (s₁.setTop (mkF m 32 #[.val (.ref a1), .val (.double (FP.dadd (FP.dadd (FP.dadd FP.dconst0 v0) v1) v2)), .second, .val (.ref a1), .val (.int (4 : Int32)), .val (.int ((2 : Int32) + (1 : Int32))), .val (.double v2), .second] []))
  rw [show ((2 : Int32) + (1 : Int32)) = (3 : Int32) from by decide]
  show Done p e below s _ _ _ (s₁.setTop (mkF m 32 #[.val (.ref a1), .val (.double (FP.dadd (FP.dadd (FP.dadd FP.dconst0 v0) v1) v2)), .second, .val (.ref a1), .val (.int (4 : Int32)), .val (.int (3 : Int32)), .val (.double v2), .second] []))
  refine Done.step (fun t k => XS.goto X0.here hx rfl (pc0 := 32) (pc' := 11) rfl (hb hby d1_32) (by decide) (by decide) k) ?_
  show Done p e below s _ _ _ (s₁.setTop (mkF m 11 #[.val (.ref a1), .val (.double (FP.dadd (FP.dadd (FP.dadd FP.dconst0 v0) v1) v2)), .second, .val (.ref a1), .val (.int (4 : Int32)), .val (.int (3 : Int32)), .val (.double v2), .second] []))
  refine Done.step (fun t k => XS.iload X0.here hx rfl (hb hby d1_11) rfl k) ?_
  show Done p e below s _ _ _ (s₁.setTop (mkF m 13 #[.val (.ref a1), .val (.double (FP.dadd (FP.dadd (FP.dadd FP.dconst0 v0) v1) v2)), .second, .val (.ref a1), .val (.int (4 : Int32)), .val (.int (3 : Int32)), .val (.double v2), .second] [(.int (3 : Int32))]))
  refine Done.step (fun t k => XS.iload X0.here hx rfl (hb hby d1_13) rfl k) ?_
  show Done p e below s _ _ _ (s₁.setTop (mkF m 15 #[.val (.ref a1), .val (.double (FP.dadd (FP.dadd (FP.dadd FP.dconst0 v0) v1) v2)), .second, .val (.ref a1), .val (.int (4 : Int32)), .val (.int (3 : Int32)), .val (.double v2), .second] [(.int (4 : Int32)), (.int (3 : Int32))]))
  refine Done.step (fun t k => XS.icmpNo X0.here hx rfl (hb hby d1_15) rfl (tlt (by decide)).2.1 k) ?_
  show Done p e below s _ _ _ (s₁.setTop (mkF m 18 #[.val (.ref a1), .val (.double (FP.dadd (FP.dadd (FP.dadd FP.dconst0 v0) v1) v2)), .second, .val (.ref a1), .val (.int (4 : Int32)), .val (.int (3 : Int32)), .val (.double v2), .second] []))
  refine Done.step (fun t k => XS.aloadN X0.here hx rfl (hb hby d1_18) rfl rfl k) ?_
  show Done p e below s _ _ _ (s₁.setTop (mkF m 19 #[.val (.ref a1), .val (.double (FP.dadd (FP.dadd (FP.dadd FP.dconst0 v0) v1) v2)), .second, .val (.ref a1), .val (.int (4 : Int32)), .val (.int (3 : Int32)), .val (.double v2), .second] [(.ref a1)]))
  refine Done.step (fun t k => XS.iload X0.here hx rfl (hb hby d1_19) rfl k) ?_
  show Done p e below s _ _ _ (s₁.setTop (mkF m 21 #[.val (.ref a1), .val (.double (FP.dadd (FP.dadd (FP.dadd FP.dconst0 v0) v1) v2)), .second, .val (.ref a1), .val (.int (4 : Int32)), .val (.int (3 : Int32)), .val (.double v2), .second] [(.int (3 : Int32)), (.ref a1)]))
  refine Done.step (ldD X0 hx hZ e0 A1 (j := (3 : Int32)) (x := (.double v3)) (by decide) rfl (g := (mkF m 21 #[.val (.ref a1), .val (.double (FP.dadd (FP.dadd (FP.dadd FP.dconst0 v0) v1) v2)), .second, .val (.ref a1), .val (.int (4 : Int32)), .val (.int (3 : Int32)), .val (.double v2), .second] [(.int (3 : Int32)), (.ref a1)])) rfl rfl (hb hby d1_21)) ?_
  show Done p e below s _ _ _ (s₁.setTop (mkF m 22 #[.val (.ref a1), .val (.double (FP.dadd (FP.dadd (FP.dadd FP.dconst0 v0) v1) v2)), .second, .val (.ref a1), .val (.int (4 : Int32)), .val (.int (3 : Int32)), .val (.double v2), .second] [(.double v3)]))
  refine Done.step (fun t k => XS.dstore X0.here hx rfl (hb hby d1_22) rfl (l' := #[.val (.ref a1), .val (.double (FP.dadd (FP.dadd (FP.dadd FP.dconst0 v0) v1) v2)), .second, .val (.ref a1), .val (.int (4 : Int32)), .val (.int (3 : Int32)), .val (.double v3), .second]) rfl k) ?_
  show Done p e below s _ _ _ (s₁.setTop (mkF m 24 #[.val (.ref a1), .val (.double (FP.dadd (FP.dadd (FP.dadd FP.dconst0 v0) v1) v2)), .second, .val (.ref a1), .val (.int (4 : Int32)), .val (.int (3 : Int32)), .val (.double v3), .second] []))
  refine Done.step (fun t k => XS.dloadN X0.here hx rfl (hb hby d1_24) rfl k) ?_
  show Done p e below s _ _ _ (s₁.setTop (mkF m 25 #[.val (.ref a1), .val (.double (FP.dadd (FP.dadd (FP.dadd FP.dconst0 v0) v1) v2)), .second, .val (.ref a1), .val (.int (4 : Int32)), .val (.int (3 : Int32)), .val (.double v3), .second] [(.double (FP.dadd (FP.dadd (FP.dadd FP.dconst0 v0) v1) v2))]))
  refine Done.step (fun t k => XS.dload X0.here hx rfl (hb hby d1_25) rfl k) ?_
  show Done p e below s _ _ _ (s₁.setTop (mkF m 27 #[.val (.ref a1), .val (.double (FP.dadd (FP.dadd (FP.dadd FP.dconst0 v0) v1) v2)), .second, .val (.ref a1), .val (.int (4 : Int32)), .val (.int (3 : Int32)), .val (.double v3), .second] [(.double v3), (.double (FP.dadd (FP.dadd (FP.dadd FP.dconst0 v0) v1) v2))]))
  refine Done.step (fun t k => XS.daddS X0.here hx rfl (hb hby d1_27) rfl (Jvm.Free.Fl.dadd_out (Jvm.Free.Fl.dadd_out (Jvm.Free.Fl.dadd_out (Jvm.Free.Fl.dadd_out own_z hf0) hf1) hf2) hf3) rfl k) ?_
  show Done p e below s _ _ _ (s₁.setTop (mkF m 28 #[.val (.ref a1), .val (.double (FP.dadd (FP.dadd (FP.dadd FP.dconst0 v0) v1) v2)), .second, .val (.ref a1), .val (.int (4 : Int32)), .val (.int (3 : Int32)), .val (.double v3), .second] [(.double (FP.dadd (FP.dadd (FP.dadd (FP.dadd FP.dconst0 v0) v1) v2) v3))]))
  refine Done.step (fun t k => XS.dstoreN X0.here hx rfl (hb hby d1_28) rfl (l' := #[.val (.ref a1), .val (.double (FP.dadd (FP.dadd (FP.dadd (FP.dadd FP.dconst0 v0) v1) v2) v3)), .second, .val (.ref a1), .val (.int (4 : Int32)), .val (.int (3 : Int32)), .val (.double v3), .second]) rfl k) ?_
  show Done p e below s _ _ _ (s₁.setTop (mkF m 29 #[.val (.ref a1), .val (.double (FP.dadd (FP.dadd (FP.dadd (FP.dadd FP.dconst0 v0) v1) v2) v3)), .second, .val (.ref a1), .val (.int (4 : Int32)), .val (.int (3 : Int32)), .val (.double v3), .second] []))
  refine Done.step (fun t k => XS.iinc X0.here hx rfl (hb hby d1_29) rfl (l' := #[.val (.ref a1), .val (.double (FP.dadd (FP.dadd (FP.dadd (FP.dadd FP.dconst0 v0) v1) v2) v3)), .second, .val (.ref a1), .val (.int (4 : Int32)), .val (.int ((3 : Int32) + (1 : Int32))), .val (.double v3), .second]) rfl k) ?_
  show Done p e below s _ _ _ (s₁.setTop (mkF m 32 #[.val (.ref a1), .val (.double (FP.dadd (FP.dadd (FP.dadd (FP.dadd FP.dconst0 v0) v1) v2) v3)), .second, .val (.ref a1), .val (.int (4 : Int32)), .val (.int ((3 : Int32) + (1 : Int32))), .val (.double v3), .second] []))
  rw [show ((3 : Int32) + (1 : Int32)) = (4 : Int32) from by decide]
  show Done p e below s _ _ _ (s₁.setTop (mkF m 32 #[.val (.ref a1), .val (.double (FP.dadd (FP.dadd (FP.dadd (FP.dadd FP.dconst0 v0) v1) v2) v3)), .second, .val (.ref a1), .val (.int (4 : Int32)), .val (.int (4 : Int32)), .val (.double v3), .second] []))
  refine Done.step (fun t k => XS.goto X0.here hx rfl (pc0 := 32) (pc' := 11) rfl (hb hby d1_32) (by decide) (by decide) k) ?_
  show Done p e below s _ _ _ (s₁.setTop (mkF m 11 #[.val (.ref a1), .val (.double (FP.dadd (FP.dadd (FP.dadd (FP.dadd FP.dconst0 v0) v1) v2) v3)), .second, .val (.ref a1), .val (.int (4 : Int32)), .val (.int (4 : Int32)), .val (.double v3), .second] []))
  refine Done.step (fun t k => XS.iload X0.here hx rfl (hb hby d1_11) rfl k) ?_
  show Done p e below s _ _ _ (s₁.setTop (mkF m 13 #[.val (.ref a1), .val (.double (FP.dadd (FP.dadd (FP.dadd (FP.dadd FP.dconst0 v0) v1) v2) v3)), .second, .val (.ref a1), .val (.int (4 : Int32)), .val (.int (4 : Int32)), .val (.double v3), .second] [(.int (4 : Int32))]))
  refine Done.step (fun t k => XS.iload X0.here hx rfl (hb hby d1_13) rfl k) ?_
  show Done p e below s _ _ _ (s₁.setTop (mkF m 15 #[.val (.ref a1), .val (.double (FP.dadd (FP.dadd (FP.dadd (FP.dadd FP.dconst0 v0) v1) v2) v3)), .second, .val (.ref a1), .val (.int (4 : Int32)), .val (.int (4 : Int32)), .val (.double v3), .second] [(.int (4 : Int32)), (.int (4 : Int32))]))
  refine Done.step (fun t k => XS.icmpYes X0.here hx rfl (pc0 := 15) (pc' := 35) rfl (hb hby d1_15) rfl (flt (by decide)).2.1 (by decide) (by decide) k) ?_
  show Done p e below s _ _ _ (s₁.setTop (mkF m 35 #[.val (.ref a1), .val (.double (FP.dadd (FP.dadd (FP.dadd (FP.dadd FP.dconst0 v0) v1) v2) v3)), .second, .val (.ref a1), .val (.int (4 : Int32)), .val (.int (4 : Int32)), .val (.double v3), .second] []))
  refine Done.step (fun t k => XS.dloadN X0.here hx rfl (hb hby d1_35) rfl k) ?_
  show Done p e below s _ _ _ (s₁.setTop (mkF m 36 #[.val (.ref a1), .val (.double (FP.dadd (FP.dadd (FP.dadd (FP.dadd FP.dconst0 v0) v1) v2) v3)), .second, .val (.ref a1), .val (.int (4 : Int32)), .val (.int (4 : Int32)), .val (.double v3), .second] [(.double (FP.dadd (FP.dadd (FP.dadd (FP.dadd FP.dconst0 v0) v1) v2) v3))]))
  exact Done.double X0 hx hlk hret (hb hby d1_36) (by decide) (by decide) ⟨rfl, N0, e0⟩
theorem pn_0 : plainName "com/example/wardsum/wardsum/algorithm/TargetNodesSumPinLaw" = true := by first | (simp [plainName, overriddenIn]; done) | decide +kernel
theorem ef_0 (m : MethodId) (p1 : Int32) (q2 : Int64) (q3 : Int64) (q4 : Int64) (q5 : Int64) : entryFrame m #[(.int p1), (.long q2), (.long q3), (.long q4), (.long q5)] maxLocals = mkF m 0 #[.val (.int p1), .val (.long q2), .second, .val (.long q3), .second, .val (.long q4), .second, .val (.long q5), .second, .unset, .unset, .unset, .unset, .unset, .unset, .unset, .unset, .unset, .unset, .unset, .unset, .unset, .unset] [] := by first | (simp [entryFrame, mkF, argsToLocals, Value.category, maxLocals]; done) | rfl
def Qrm0 (Z : State) (p1 : Int32) (q2 : Int64) (q3 : Int64) (q4 : Int64) (q5 : Int64) (h0 : Heap) (n0 : Nat) : Option Value → Heap → List Loc → Prop := fun v h L => v = some (.int 1) ∧ Fr n0 L
set_option maxRecDepth 65536 in
set_option maxHeartbeats 40000000 in
theorem rm0 (l : Launch) (Z : State) (a0 : Array Value) (hw : ∀ d ∈ tables_1, d.before a0 Z = true) (ws : List Jvm.Cond) (p1 : Int32) (q2 : Int64) (q3 : Int64) (q4 : Int64) (q5 : Int64) (h0 : Heap) (n0 : Nat) (Z0 : n0 ≤ h0.size) :
    MetFree l x (head1 (Jvm.Cond.code x code maxLocals ret :: ws) room_1) (fun a U => a = #[(.int p1), (.long q2), (.long q3), (.long q4), (.long q5)] ∧ Z.Warmed39 U.vm ∧ U.heap = h0) (fun _ _ _ _ _ => True) (fun _ U o U' => ∃ v L, o = .returned v ∧ Qrm0 Z p1 q2 q3 q4 q5 h0 n0 v U'.heap L ∧ FrameEnd U o U' L room_1.cells room_1.slots) := by
  refine MetFree.of_bodySF (plainFor_of_name pn_0) hisR ?_
  intro p e s m args below meth c s₁ Bd hml0 hP hK
  obtain ⟨rfl, hZ, hhp⟩ := hP
  have hx := Bd.exec
  have hby := Bd.bytes
  have hml : c.maxLocals = 23 := hml0
  have hown : s.vm.findClass "com/example/wardsum/wardsum/algorithm/TargetNodesSumPinLaw" = some m.cls := findClass_of_methodNamed Bd.named
  have hnm := (name_of_methodNamed Bd.named Bd.method).1
  have hlk : meth.locks = false := BodyLoose.notSynchronized Bd
  have hret := Bd.returns
  have X0 : Stand p l e room_1 s m #[(.int p1), (.long q2), (.long q3), (.long q4), (.long q5)] below meth c s₁ [] 0 0 := Stand.of_body Bd
  have e0 : s₁.heap = h0 := by rw [← hhp, Bd.state]; rfl
  have N0 := Fr.nil n0
  show Done p e below s (Qrm0 Z p1 q2 q3 q4 q5 h0 n0) room_1.cells room_1.slots (s₁.setTop (entryFrame m #[(.int p1), (.long q2), (.long q3), (.long q4), (.long q5)] maxLocals))
  refine Done.step (fun t k => castTop (ef_0 m p1 q2 q3 q4 q5) k) ?_
  show Done p e below s _ _ _ (s₁.setTop (mkF m 0 #[.val (.int p1), .val (.long q2), .second, .val (.long q3), .second, .val (.long q4), .second, .val (.long q5), .second, .unset, .unset, .unset, .unset, .unset, .unset, .unset, .unset, .unset, .unset, .unset, .unset, .unset, .unset] []))
  refine Done.step (fun t k => XS.iloadN X0.here hx rfl (hb hby at_0) rfl k) ?_
  show Done p e below s _ _ _ (s₁.setTop (mkF m 1 #[.val (.int p1), .val (.long q2), .second, .val (.long q3), .second, .val (.long q4), .second, .val (.long q5), .second, .unset, .unset, .unset, .unset, .unset, .unset, .unset, .unset, .unset, .unset, .unset, .unset, .unset, .unset] [(.int p1)]))
  refine Done.step (X0.ldcInt hx hown (mvT hZ (hw _ (List.mem_of_getElem? (i := 0) rfl))) (g := (mkF m 1 #[.val (.int p1), .val (.long q2), .second, .val (.long q3), .second, .val (.long q4), .second, .val (.long q5), .second, .unset, .unset, .unset, .unset, .unset, .unset, .unset, .unset, .unset, .unset, .unset, .unset, .unset, .unset] [(.int p1)])) rfl (hb hby at_1)) ?_
  show Done p e below s _ _ _ (s₁.setTop (mkF m 3 #[.val (.int p1), .val (.long q2), .second, .val (.long q3), .second, .val (.long q4), .second, .val (.long q5), .second, .unset, .unset, .unset, .unset, .unset, .unset, .unset, .unset, .unset, .unset, .unset, .unset, .unset, .unset] [(.int (2147483647 : Int32)), (.int p1)]))
  refine Done.step (fun t k => XS.iand X0.here hx rfl (hb hby at_3) rfl k) ?_
  show Done p e below s _ _ _ (s₁.setTop (mkF m 4 #[.val (.int p1), .val (.long q2), .second, .val (.long q3), .second, .val (.long q4), .second, .val (.long q5), .second, .unset, .unset, .unset, .unset, .unset, .unset, .unset, .unset, .unset, .unset, .unset, .unset, .unset, .unset] [(.int (p1 &&& (2147483647 : Int32)))]))
  refine Done.step (fun t k => XS.iconst X0.here hx rfl (hb hby at_4) k) ?_
  show Done p e below s _ _ _ (s₁.setTop (mkF m 5 #[.val (.int p1), .val (.long q2), .second, .val (.long q3), .second, .val (.long q4), .second, .val (.long q5), .second, .unset, .unset, .unset, .unset, .unset, .unset, .unset, .unset, .unset, .unset, .unset, .unset, .unset, .unset] [(.int (5 : Int32)), (.int (p1 &&& (2147483647 : Int32)))]))
  refine Done.step (fun t k => iremM X0 hx rfl (hb hby at_5) rfl (by decide) k) ?_
  show Done p e below s _ _ _ (s₁.setTop (mkF m 6 #[.val (.int p1), .val (.long q2), .second, .val (.long q3), .second, .val (.long q4), .second, .val (.long q5), .second, .unset, .unset, .unset, .unset, .unset, .unset, .unset, .unset, .unset, .unset, .unset, .unset, .unset, .unset] [(.int ((p1 &&& (2147483647 : Int32)) % (5 : Int32)))]))
  generalize dx101 : ((p1 &&& (2147483647 : Int32)) % (5 : Int32)) = x101
  show Done p e below s _ _ _ (s₁.setTop (mkF m 6 #[.val (.int p1), .val (.long q2), .second, .val (.long q3), .second, .val (.long q4), .second, .val (.long q5), .second, .unset, .unset, .unset, .unset, .unset, .unset, .unset, .unset, .unset, .unset, .unset, .unset, .unset, .unset] [(.int x101)]))
  refine Done.step (fun t k => XS.istore X0.here hx rfl (hb hby at_6) rfl (l' := #[.val (.int p1), .val (.long q2), .second, .val (.long q3), .second, .val (.long q4), .second, .val (.long q5), .second, .val (.int x101), .unset, .unset, .unset, .unset, .unset, .unset, .unset, .unset, .unset, .unset, .unset, .unset, .unset]) rfl k) ?_
  show Done p e below s _ _ _ (s₁.setTop (mkF m 8 #[.val (.int p1), .val (.long q2), .second, .val (.long q3), .second, .val (.long q4), .second, .val (.long q5), .second, .val (.int x101), .unset, .unset, .unset, .unset, .unset, .unset, .unset, .unset, .unset, .unset, .unset, .unset, .unset] []))
  refine Done.step (fun t k => XS.lloadN X0.here hx rfl (hb hby at_8) rfl k) ?_
  show Done p e below s _ _ _ (s₁.setTop (mkF m 9 #[.val (.int p1), .val (.long q2), .second, .val (.long q3), .second, .val (.long q4), .second, .val (.long q5), .second, .val (.int x101), .unset, .unset, .unset, .unset, .unset, .unset, .unset, .unset, .unset, .unset, .unset, .unset, .unset] [(.long q2)]))
  refine Done.step (fun t k => XS.l2dS X0.here hx rfl (hb hby at_9) rfl rfl k) ?_
  show Done p e below s _ _ _ (s₁.setTop (mkF m 10 #[.val (.int p1), .val (.long q2), .second, .val (.long q3), .second, .val (.long q4), .second, .val (.long q5), .second, .val (.int x101), .unset, .unset, .unset, .unset, .unset, .unset, .unset, .unset, .unset, .unset, .unset, .unset, .unset] [(.double (FP.l2d q2))]))
  refine Done.step (fun t k => XS.dstore X0.here hx rfl (hb hby at_10) rfl (l' := #[.val (.int p1), .val (.long q2), .second, .val (.long q3), .second, .val (.long q4), .second, .val (.long q5), .second, .val (.int x101), .val (.double (FP.l2d q2)), .second, .unset, .unset, .unset, .unset, .unset, .unset, .unset, .unset, .unset, .unset, .unset]) rfl k) ?_
  show Done p e below s _ _ _ (s₁.setTop (mkF m 12 #[.val (.int p1), .val (.long q2), .second, .val (.long q3), .second, .val (.long q4), .second, .val (.long q5), .second, .val (.int x101), .val (.double (FP.l2d q2)), .second, .unset, .unset, .unset, .unset, .unset, .unset, .unset, .unset, .unset, .unset, .unset] []))
  refine Done.step (fun t k => XS.lloadN X0.here hx rfl (hb hby at_12) rfl k) ?_
  show Done p e below s _ _ _ (s₁.setTop (mkF m 13 #[.val (.int p1), .val (.long q2), .second, .val (.long q3), .second, .val (.long q4), .second, .val (.long q5), .second, .val (.int x101), .val (.double (FP.l2d q2)), .second, .unset, .unset, .unset, .unset, .unset, .unset, .unset, .unset, .unset, .unset, .unset] [(.long q3)]))
  refine Done.step (fun t k => XS.l2dS X0.here hx rfl (hb hby at_13) rfl rfl k) ?_
  show Done p e below s _ _ _ (s₁.setTop (mkF m 14 #[.val (.int p1), .val (.long q2), .second, .val (.long q3), .second, .val (.long q4), .second, .val (.long q5), .second, .val (.int x101), .val (.double (FP.l2d q2)), .second, .unset, .unset, .unset, .unset, .unset, .unset, .unset, .unset, .unset, .unset, .unset] [(.double (FP.l2d q3))]))
  refine Done.step (fun t k => XS.dstore X0.here hx rfl (hb hby at_14) rfl (l' := #[.val (.int p1), .val (.long q2), .second, .val (.long q3), .second, .val (.long q4), .second, .val (.long q5), .second, .val (.int x101), .val (.double (FP.l2d q2)), .second, .val (.double (FP.l2d q3)), .second, .unset, .unset, .unset, .unset, .unset, .unset, .unset, .unset, .unset]) rfl k) ?_
  show Done p e below s _ _ _ (s₁.setTop (mkF m 16 #[.val (.int p1), .val (.long q2), .second, .val (.long q3), .second, .val (.long q4), .second, .val (.long q5), .second, .val (.int x101), .val (.double (FP.l2d q2)), .second, .val (.double (FP.l2d q3)), .second, .unset, .unset, .unset, .unset, .unset, .unset, .unset, .unset, .unset] []))
  refine Done.step (fun t k => XS.lload X0.here hx rfl (hb hby at_16) rfl k) ?_
  show Done p e below s _ _ _ (s₁.setTop (mkF m 18 #[.val (.int p1), .val (.long q2), .second, .val (.long q3), .second, .val (.long q4), .second, .val (.long q5), .second, .val (.int x101), .val (.double (FP.l2d q2)), .second, .val (.double (FP.l2d q3)), .second, .unset, .unset, .unset, .unset, .unset, .unset, .unset, .unset, .unset] [(.long q4)]))
  refine Done.step (fun t k => XS.l2dS X0.here hx rfl (hb hby at_18) rfl rfl k) ?_
  show Done p e below s _ _ _ (s₁.setTop (mkF m 19 #[.val (.int p1), .val (.long q2), .second, .val (.long q3), .second, .val (.long q4), .second, .val (.long q5), .second, .val (.int x101), .val (.double (FP.l2d q2)), .second, .val (.double (FP.l2d q3)), .second, .unset, .unset, .unset, .unset, .unset, .unset, .unset, .unset, .unset] [(.double (FP.l2d q4))]))
  refine Done.step (fun t k => XS.dstore X0.here hx rfl (hb hby at_19) rfl (l' := #[.val (.int p1), .val (.long q2), .second, .val (.long q3), .second, .val (.long q4), .second, .val (.long q5), .second, .val (.int x101), .val (.double (FP.l2d q2)), .second, .val (.double (FP.l2d q3)), .second, .val (.double (FP.l2d q4)), .second, .unset, .unset, .unset, .unset, .unset, .unset, .unset]) rfl k) ?_
  show Done p e below s _ _ _ (s₁.setTop (mkF m 21 #[.val (.int p1), .val (.long q2), .second, .val (.long q3), .second, .val (.long q4), .second, .val (.long q5), .second, .val (.int x101), .val (.double (FP.l2d q2)), .second, .val (.double (FP.l2d q3)), .second, .val (.double (FP.l2d q4)), .second, .unset, .unset, .unset, .unset, .unset, .unset, .unset] []))
  refine Done.step (fun t k => XS.lload X0.here hx rfl (hb hby at_21) rfl k) ?_
  show Done p e below s _ _ _ (s₁.setTop (mkF m 23 #[.val (.int p1), .val (.long q2), .second, .val (.long q3), .second, .val (.long q4), .second, .val (.long q5), .second, .val (.int x101), .val (.double (FP.l2d q2)), .second, .val (.double (FP.l2d q3)), .second, .val (.double (FP.l2d q4)), .second, .unset, .unset, .unset, .unset, .unset, .unset, .unset] [(.long q5)]))
  refine Done.step (fun t k => XS.l2dS X0.here hx rfl (hb hby at_23) rfl rfl k) ?_
  show Done p e below s _ _ _ (s₁.setTop (mkF m 24 #[.val (.int p1), .val (.long q2), .second, .val (.long q3), .second, .val (.long q4), .second, .val (.long q5), .second, .val (.int x101), .val (.double (FP.l2d q2)), .second, .val (.double (FP.l2d q3)), .second, .val (.double (FP.l2d q4)), .second, .unset, .unset, .unset, .unset, .unset, .unset, .unset] [(.double (FP.l2d q5))]))
  refine Done.step (fun t k => XS.dstore X0.here hx rfl (hb hby at_24) rfl (l' := #[.val (.int p1), .val (.long q2), .second, .val (.long q3), .second, .val (.long q4), .second, .val (.long q5), .second, .val (.int x101), .val (.double (FP.l2d q2)), .second, .val (.double (FP.l2d q3)), .second, .val (.double (FP.l2d q4)), .second, .val (.double (FP.l2d q5)), .second, .unset, .unset, .unset, .unset, .unset]) rfl k) ?_
  show Done p e below s _ _ _ (s₁.setTop (mkF m 26 #[.val (.int p1), .val (.long q2), .second, .val (.long q3), .second, .val (.long q4), .second, .val (.long q5), .second, .val (.int x101), .val (.double (FP.l2d q2)), .second, .val (.double (FP.l2d q3)), .second, .val (.double (FP.l2d q4)), .second, .val (.double (FP.l2d q5)), .second, .unset, .unset, .unset, .unset, .unset] []))
  rcases own_n dx101 with hk | hk | hk | hk | hk
  · subst hk
    show Done p e below s _ _ _ (s₁.setTop (mkF m 26 #[.val (.int p1), .val (.long q2), .second, .val (.long q3), .second, .val (.long q4), .second, .val (.long q5), .second, .val (.int (0 : Int32)), .val (.double (FP.l2d q2)), .second, .val (.double (FP.l2d q3)), .second, .val (.double (FP.l2d q4)), .second, .val (.double (FP.l2d q5)), .second, .unset, .unset, .unset, .unset, .unset] []))
    refine Done.step (fun t k => XS.iload X0.here hx rfl (hb hby at_26) rfl k) ?_
    show Done p e below s _ _ _ (s₁.setTop (mkF m 28 #[.val (.int p1), .val (.long q2), .second, .val (.long q3), .second, .val (.long q4), .second, .val (.long q5), .second, .val (.int (0 : Int32)), .val (.double (FP.l2d q2)), .second, .val (.double (FP.l2d q3)), .second, .val (.double (FP.l2d q4)), .second, .val (.double (FP.l2d q5)), .second, .unset, .unset, .unset, .unset, .unset] [(.int (0 : Int32))]))
    obtain ⟨T102, h102, k102, X102, e102, E102, A102, B102, st102⟩ := newPE X0 hx hZ (hw _ (List.mem_of_getElem? (i := 1) rfl)) e0 (g := (mkF m 28 #[.val (.int p1), .val (.long q2), .second, .val (.long q3), .second, .val (.long q4), .second, .val (.long q5), .second, .val (.int (0 : Int32)), .val (.double (FP.l2d q2)), .second, .val (.double (FP.l2d q3)), .second, .val (.double (FP.l2d q4)), .second, .val (.double (FP.l2d q5)), .second, .unset, .unset, .unset, .unset, .unset] [(.int (0 : Int32))])) rfl (hb hby at_28) rfl (by decide) (cap := 0) (by decide) (by decide) (by decide) (by decide) (ad := "[D") (by decide)
    obtain ⟨b102, gq102⟩ : ∃ z, z = h0.size := ⟨_, rfl⟩
    rw [← gq102] at A102 B102 st102
    have g_b102 : n0 ≤ b102 := Nat.le_trans Z0 (Nat.le_of_eq gq102.symm)
    have Z102 : n0 ≤ h102.size := Nat.le_trans Z0 E102.1
    have f103 : Ax Z h102 b102 .double [] := Ax.new (ty := .double) (i := 0) A102 (by decide)
    refine Done.step st102 ?_
    show Done p e below s _ _ _ (T102.setTop (mkF m 30 #[.val (.int p1), .val (.long q2), .second, .val (.long q3), .second, .val (.long q4), .second, .val (.long q5), .second, .val (.int (0 : Int32)), .val (.double (FP.l2d q2)), .second, .val (.double (FP.l2d q3)), .second, .val (.double (FP.l2d q4)), .second, .val (.double (FP.l2d q5)), .second, .unset, .unset, .unset, .unset, .unset] [(.ref b102)]))
    refine Done.step (fun t k => XS.astore X102.here hx rfl (hb hby at_30) rfl rfl (l' := #[.val (.int p1), .val (.long q2), .second, .val (.long q3), .second, .val (.long q4), .second, .val (.long q5), .second, .val (.int (0 : Int32)), .val (.double (FP.l2d q2)), .second, .val (.double (FP.l2d q3)), .second, .val (.double (FP.l2d q4)), .second, .val (.double (FP.l2d q5)), .second, .val (.ref b102), .unset, .unset, .unset, .unset]) rfl k) ?_
    show Done p e below s _ _ _ (T102.setTop (mkF m 32 #[.val (.int p1), .val (.long q2), .second, .val (.long q3), .second, .val (.long q4), .second, .val (.long q5), .second, .val (.int (0 : Int32)), .val (.double (FP.l2d q2)), .second, .val (.double (FP.l2d q3)), .second, .val (.double (FP.l2d q4)), .second, .val (.double (FP.l2d q5)), .second, .val (.ref b102), .unset, .unset, .unset, .unset] []))
    refine Done.step (fun t k => XS.iload X102.here hx rfl (hb hby at_32) rfl k) ?_
    show Done p e below s _ _ _ (T102.setTop (mkF m 34 #[.val (.int p1), .val (.long q2), .second, .val (.long q3), .second, .val (.long q4), .second, .val (.long q5), .second, .val (.int (0 : Int32)), .val (.double (FP.l2d q2)), .second, .val (.double (FP.l2d q3)), .second, .val (.double (FP.l2d q4)), .second, .val (.double (FP.l2d q5)), .second, .val (.ref b102), .unset, .unset, .unset, .unset] [(.int (0 : Int32))]))
    refine Done.step (fun t k => XS.ifYes X102.here hx rfl (pc0 := 34) (pc' := 43) rfl (hb hby at_34) rfl ((if0 _ _).trans (flt (by decide)).2.2.2) (by decide) (by decide) k) ?_
    show Done p e below s _ _ _ (T102.setTop (mkF m 43 #[.val (.int p1), .val (.long q2), .second, .val (.long q3), .second, .val (.long q4), .second, .val (.long q5), .second, .val (.int (0 : Int32)), .val (.double (FP.l2d q2)), .second, .val (.double (FP.l2d q3)), .second, .val (.double (FP.l2d q4)), .second, .val (.double (FP.l2d q5)), .second, .val (.ref b102), .unset, .unset, .unset, .unset] []))
    refine Done.step (fun t k => XS.iload X102.here hx rfl (hb hby at_43) rfl k) ?_
    show Done p e below s _ _ _ (T102.setTop (mkF m 45 #[.val (.int p1), .val (.long q2), .second, .val (.long q3), .second, .val (.long q4), .second, .val (.long q5), .second, .val (.int (0 : Int32)), .val (.double (FP.l2d q2)), .second, .val (.double (FP.l2d q3)), .second, .val (.double (FP.l2d q4)), .second, .val (.double (FP.l2d q5)), .second, .val (.ref b102), .unset, .unset, .unset, .unset] [(.int (0 : Int32))]))
    refine Done.step (fun t k => XS.iconst X102.here hx rfl (hb hby at_45) k) ?_
    show Done p e below s _ _ _ (T102.setTop (mkF m 46 #[.val (.int p1), .val (.long q2), .second, .val (.long q3), .second, .val (.long q4), .second, .val (.long q5), .second, .val (.int (0 : Int32)), .val (.double (FP.l2d q2)), .second, .val (.double (FP.l2d q3)), .second, .val (.double (FP.l2d q4)), .second, .val (.double (FP.l2d q5)), .second, .val (.ref b102), .unset, .unset, .unset, .unset] [(.int (1 : Int32)), (.int (0 : Int32))]))
    refine Done.step (fun t k => XS.icmpYes X102.here hx rfl (pc0 := 46) (pc' := 55) rfl (hb hby at_46) rfl (flt (by decide)).2.2.2 (by decide) (by decide) k) ?_
    show Done p e below s _ _ _ (T102.setTop (mkF m 55 #[.val (.int p1), .val (.long q2), .second, .val (.long q3), .second, .val (.long q4), .second, .val (.long q5), .second, .val (.int (0 : Int32)), .val (.double (FP.l2d q2)), .second, .val (.double (FP.l2d q3)), .second, .val (.double (FP.l2d q4)), .second, .val (.double (FP.l2d q5)), .second, .val (.ref b102), .unset, .unset, .unset, .unset] []))
    refine Done.step (fun t k => XS.iload X102.here hx rfl (hb hby at_55) rfl k) ?_
    show Done p e below s _ _ _ (T102.setTop (mkF m 57 #[.val (.int p1), .val (.long q2), .second, .val (.long q3), .second, .val (.long q4), .second, .val (.long q5), .second, .val (.int (0 : Int32)), .val (.double (FP.l2d q2)), .second, .val (.double (FP.l2d q3)), .second, .val (.double (FP.l2d q4)), .second, .val (.double (FP.l2d q5)), .second, .val (.ref b102), .unset, .unset, .unset, .unset] [(.int (0 : Int32))]))
    refine Done.step (fun t k => XS.iconst X102.here hx rfl (hb hby at_57) k) ?_
    show Done p e below s _ _ _ (T102.setTop (mkF m 58 #[.val (.int p1), .val (.long q2), .second, .val (.long q3), .second, .val (.long q4), .second, .val (.long q5), .second, .val (.int (0 : Int32)), .val (.double (FP.l2d q2)), .second, .val (.double (FP.l2d q3)), .second, .val (.double (FP.l2d q4)), .second, .val (.double (FP.l2d q5)), .second, .val (.ref b102), .unset, .unset, .unset, .unset] [(.int (2 : Int32)), (.int (0 : Int32))]))
    refine Done.step (fun t k => XS.icmpYes X102.here hx rfl (pc0 := 58) (pc' := 67) rfl (hb hby at_58) rfl (flt (by decide)).2.2.2 (by decide) (by decide) k) ?_
    show Done p e below s _ _ _ (T102.setTop (mkF m 67 #[.val (.int p1), .val (.long q2), .second, .val (.long q3), .second, .val (.long q4), .second, .val (.long q5), .second, .val (.int (0 : Int32)), .val (.double (FP.l2d q2)), .second, .val (.double (FP.l2d q3)), .second, .val (.double (FP.l2d q4)), .second, .val (.double (FP.l2d q5)), .second, .val (.ref b102), .unset, .unset, .unset, .unset] []))
    refine Done.step (fun t k => XS.iload X102.here hx rfl (hb hby at_67) rfl k) ?_
    show Done p e below s _ _ _ (T102.setTop (mkF m 69 #[.val (.int p1), .val (.long q2), .second, .val (.long q3), .second, .val (.long q4), .second, .val (.long q5), .second, .val (.int (0 : Int32)), .val (.double (FP.l2d q2)), .second, .val (.double (FP.l2d q3)), .second, .val (.double (FP.l2d q4)), .second, .val (.double (FP.l2d q5)), .second, .val (.ref b102), .unset, .unset, .unset, .unset] [(.int (0 : Int32))]))
    refine Done.step (fun t k => XS.iconst X102.here hx rfl (hb hby at_69) k) ?_
    show Done p e below s _ _ _ (T102.setTop (mkF m 70 #[.val (.int p1), .val (.long q2), .second, .val (.long q3), .second, .val (.long q4), .second, .val (.long q5), .second, .val (.int (0 : Int32)), .val (.double (FP.l2d q2)), .second, .val (.double (FP.l2d q3)), .second, .val (.double (FP.l2d q4)), .second, .val (.double (FP.l2d q5)), .second, .val (.ref b102), .unset, .unset, .unset, .unset] [(.int (3 : Int32)), (.int (0 : Int32))]))
    refine Done.step (fun t k => XS.icmpYes X102.here hx rfl (pc0 := 70) (pc' := 79) rfl (hb hby at_70) rfl (flt (by decide)).2.2.2 (by decide) (by decide) k) ?_
    show Done p e below s _ _ _ (T102.setTop (mkF m 79 #[.val (.int p1), .val (.long q2), .second, .val (.long q3), .second, .val (.long q4), .second, .val (.long q5), .second, .val (.int (0 : Int32)), .val (.double (FP.l2d q2)), .second, .val (.double (FP.l2d q3)), .second, .val (.double (FP.l2d q4)), .second, .val (.double (FP.l2d q5)), .second, .val (.ref b102), .unset, .unset, .unset, .unset] []))
    refine Done.step (fun t k => XS.dconst0 X102.here hx rfl (hb hby at_79) rfl k) ?_
    show Done p e below s _ _ _ (T102.setTop (mkF m 80 #[.val (.int p1), .val (.long q2), .second, .val (.long q3), .second, .val (.long q4), .second, .val (.long q5), .second, .val (.int (0 : Int32)), .val (.double (FP.l2d q2)), .second, .val (.double (FP.l2d q3)), .second, .val (.double (FP.l2d q4)), .second, .val (.double (FP.l2d q5)), .second, .val (.ref b102), .unset, .unset, .unset, .unset] [(.double FP.dconst0)]))
    refine Done.step (fun t k => XS.dstore X102.here hx rfl (hb hby at_80) rfl (l' := #[.val (.int p1), .val (.long q2), .second, .val (.long q3), .second, .val (.long q4), .second, .val (.long q5), .second, .val (.int (0 : Int32)), .val (.double (FP.l2d q2)), .second, .val (.double (FP.l2d q3)), .second, .val (.double (FP.l2d q4)), .second, .val (.double (FP.l2d q5)), .second, .val (.ref b102), .val (.double FP.dconst0), .second, .unset, .unset]) rfl k) ?_
    show Done p e below s _ _ _ (T102.setTop (mkF m 82 #[.val (.int p1), .val (.long q2), .second, .val (.long q3), .second, .val (.long q4), .second, .val (.long q5), .second, .val (.int (0 : Int32)), .val (.double (FP.l2d q2)), .second, .val (.double (FP.l2d q3)), .second, .val (.double (FP.l2d q4)), .second, .val (.double (FP.l2d q5)), .second, .val (.ref b102), .val (.double FP.dconst0), .second, .unset, .unset] []))
    refine Done.step (fun t k => XS.iload X102.here hx rfl (hb hby at_82) rfl k) ?_
    show Done p e below s _ _ _ (T102.setTop (mkF m 84 #[.val (.int p1), .val (.long q2), .second, .val (.long q3), .second, .val (.long q4), .second, .val (.long q5), .second, .val (.int (0 : Int32)), .val (.double (FP.l2d q2)), .second, .val (.double (FP.l2d q3)), .second, .val (.double (FP.l2d q4)), .second, .val (.double (FP.l2d q5)), .second, .val (.ref b102), .val (.double FP.dconst0), .second, .unset, .unset] [(.int (0 : Int32))]))
    refine Done.step (fun t k => XS.ifYes X102.here hx rfl (pc0 := 84) (pc' := 94) rfl (hb hby at_84) rfl ((if0 _ _).trans (flt (by decide)).2.2.2) (by decide) (by decide) k) ?_
    show Done p e below s _ _ _ (T102.setTop (mkF m 94 #[.val (.int p1), .val (.long q2), .second, .val (.long q3), .second, .val (.long q4), .second, .val (.long q5), .second, .val (.int (0 : Int32)), .val (.double (FP.l2d q2)), .second, .val (.double (FP.l2d q3)), .second, .val (.double (FP.l2d q4)), .second, .val (.double (FP.l2d q5)), .second, .val (.ref b102), .val (.double FP.dconst0), .second, .unset, .unset] []))
    refine Done.step (fun t k => XS.iload X102.here hx rfl (hb hby at_94) rfl k) ?_
    show Done p e below s _ _ _ (T102.setTop (mkF m 96 #[.val (.int p1), .val (.long q2), .second, .val (.long q3), .second, .val (.long q4), .second, .val (.long q5), .second, .val (.int (0 : Int32)), .val (.double (FP.l2d q2)), .second, .val (.double (FP.l2d q3)), .second, .val (.double (FP.l2d q4)), .second, .val (.double (FP.l2d q5)), .second, .val (.ref b102), .val (.double FP.dconst0), .second, .unset, .unset] [(.int (0 : Int32))]))
    refine Done.step (fun t k => XS.iconst X102.here hx rfl (hb hby at_96) k) ?_
    show Done p e below s _ _ _ (T102.setTop (mkF m 97 #[.val (.int p1), .val (.long q2), .second, .val (.long q3), .second, .val (.long q4), .second, .val (.long q5), .second, .val (.int (0 : Int32)), .val (.double (FP.l2d q2)), .second, .val (.double (FP.l2d q3)), .second, .val (.double (FP.l2d q4)), .second, .val (.double (FP.l2d q5)), .second, .val (.ref b102), .val (.double FP.dconst0), .second, .unset, .unset] [(.int (1 : Int32)), (.int (0 : Int32))]))
    refine Done.step (fun t k => XS.icmpYes X102.here hx rfl (pc0 := 97) (pc' := 107) rfl (hb hby at_97) rfl (flt (by decide)).2.2.2 (by decide) (by decide) k) ?_
    show Done p e below s _ _ _ (T102.setTop (mkF m 107 #[.val (.int p1), .val (.long q2), .second, .val (.long q3), .second, .val (.long q4), .second, .val (.long q5), .second, .val (.int (0 : Int32)), .val (.double (FP.l2d q2)), .second, .val (.double (FP.l2d q3)), .second, .val (.double (FP.l2d q4)), .second, .val (.double (FP.l2d q5)), .second, .val (.ref b102), .val (.double FP.dconst0), .second, .unset, .unset] []))
    refine Done.step (fun t k => XS.iload X102.here hx rfl (hb hby at_107) rfl k) ?_
    show Done p e below s _ _ _ (T102.setTop (mkF m 109 #[.val (.int p1), .val (.long q2), .second, .val (.long q3), .second, .val (.long q4), .second, .val (.long q5), .second, .val (.int (0 : Int32)), .val (.double (FP.l2d q2)), .second, .val (.double (FP.l2d q3)), .second, .val (.double (FP.l2d q4)), .second, .val (.double (FP.l2d q5)), .second, .val (.ref b102), .val (.double FP.dconst0), .second, .unset, .unset] [(.int (0 : Int32))]))
    refine Done.step (fun t k => XS.iconst X102.here hx rfl (hb hby at_109) k) ?_
    show Done p e below s _ _ _ (T102.setTop (mkF m 110 #[.val (.int p1), .val (.long q2), .second, .val (.long q3), .second, .val (.long q4), .second, .val (.long q5), .second, .val (.int (0 : Int32)), .val (.double (FP.l2d q2)), .second, .val (.double (FP.l2d q3)), .second, .val (.double (FP.l2d q4)), .second, .val (.double (FP.l2d q5)), .second, .val (.ref b102), .val (.double FP.dconst0), .second, .unset, .unset] [(.int (2 : Int32)), (.int (0 : Int32))]))
    refine Done.step (fun t k => XS.icmpYes X102.here hx rfl (pc0 := 110) (pc' := 120) rfl (hb hby at_110) rfl (flt (by decide)).2.2.2 (by decide) (by decide) k) ?_
    show Done p e below s _ _ _ (T102.setTop (mkF m 120 #[.val (.int p1), .val (.long q2), .second, .val (.long q3), .second, .val (.long q4), .second, .val (.long q5), .second, .val (.int (0 : Int32)), .val (.double (FP.l2d q2)), .second, .val (.double (FP.l2d q3)), .second, .val (.double (FP.l2d q4)), .second, .val (.double (FP.l2d q5)), .second, .val (.ref b102), .val (.double FP.dconst0), .second, .unset, .unset] []))
    refine Done.step (fun t k => XS.iload X102.here hx rfl (hb hby at_120) rfl k) ?_
    show Done p e below s _ _ _ (T102.setTop (mkF m 122 #[.val (.int p1), .val (.long q2), .second, .val (.long q3), .second, .val (.long q4), .second, .val (.long q5), .second, .val (.int (0 : Int32)), .val (.double (FP.l2d q2)), .second, .val (.double (FP.l2d q3)), .second, .val (.double (FP.l2d q4)), .second, .val (.double (FP.l2d q5)), .second, .val (.ref b102), .val (.double FP.dconst0), .second, .unset, .unset] [(.int (0 : Int32))]))
    refine Done.step (fun t k => XS.iconst X102.here hx rfl (hb hby at_122) k) ?_
    show Done p e below s _ _ _ (T102.setTop (mkF m 123 #[.val (.int p1), .val (.long q2), .second, .val (.long q3), .second, .val (.long q4), .second, .val (.long q5), .second, .val (.int (0 : Int32)), .val (.double (FP.l2d q2)), .second, .val (.double (FP.l2d q3)), .second, .val (.double (FP.l2d q4)), .second, .val (.double (FP.l2d q5)), .second, .val (.ref b102), .val (.double FP.dconst0), .second, .unset, .unset] [(.int (3 : Int32)), (.int (0 : Int32))]))
    refine Done.step (fun t k => XS.icmpYes X102.here hx rfl (pc0 := 123) (pc' := 133) rfl (hb hby at_123) rfl (flt (by decide)).2.2.2 (by decide) (by decide) k) ?_
    show Done p e below s _ _ _ (T102.setTop (mkF m 133 #[.val (.int p1), .val (.long q2), .second, .val (.long q3), .second, .val (.long q4), .second, .val (.long q5), .second, .val (.int (0 : Int32)), .val (.double (FP.l2d q2)), .second, .val (.double (FP.l2d q3)), .second, .val (.double (FP.l2d q4)), .second, .val (.double (FP.l2d q5)), .second, .val (.ref b102), .val (.double FP.dconst0), .second, .unset, .unset] []))
    refine Done.step (fun t k => XS.aload X102.here hx rfl (hb hby at_133) rfl rfl k) ?_
    show Done p e below s _ _ _ (T102.setTop (mkF m 135 #[.val (.int p1), .val (.long q2), .second, .val (.long q3), .second, .val (.long q4), .second, .val (.long q5), .second, .val (.int (0 : Int32)), .val (.double (FP.l2d q2)), .second, .val (.double (FP.l2d q3)), .second, .val (.double (FP.l2d q4)), .second, .val (.double (FP.l2d q5)), .second, .val (.ref b102), .val (.double FP.dconst0), .second, .unset, .unset] [(.ref b102)]))
    obtain ⟨v104, _, ⟨T104, L104, k104, n104⟩, -, X104, ⟨Lc104, hQ104, l104, y104, z104⟩, st104⟩ := Jvm.LawKit.callS X102 hx (y := (⟨"com/example/wardsum/wardsum/algorithm/TargetNodes", "sum", "([D)D"⟩ : MethodName)) hown (mvT hZ (hw _ (List.mem_of_getElem? (i := 2) rfl))) (mvT hZ (hw _ (List.mem_of_getElem? (i := 3) rfl))) (mvT hZ (hw _ (List.mem_of_getElem? (i := 4) rfl))) (mvT hZ (hw _ (List.mem_of_getElem? (i := 5) rfl))) (by decide) (backOf (W := 0) (rms0 l Z a0 hw [] b102  h102 n0 Z102 f103) hZ (hw _ (List.mem_of_getElem? (i := 5) rfl)) (hw _ (List.mem_of_getElem? (i := 4) rfl)) (by decide) (by decide)) (g := (mkF m 135 #[.val (.int p1), .val (.long q2), .second, .val (.long q3), .second, .val (.long q4), .second, .val (.long q5), .second, .val (.int (0 : Int32)), .val (.double (FP.l2d q2)), .second, .val (.double (FP.l2d q3)), .second, .val (.double (FP.l2d q4)), .second, .val (.double (FP.l2d q5)), .second, .val (.ref b102), .val (.double FP.dconst0), .second, .unset, .unset] [(.ref b102)])) rfl (by rw [hml]; rfl) (argsL := [(.ref b102)]) (rest := []) (lenOf pd_0 rfl) rfl (by show 2 * 0 + _ ≤ _; exact Nat.le_of_eq rfl) (hb hby at_135) (fun _ _ => ⟨rfl, e102, (by decide : 1 + 0 ≤ _), (by decide : 0 + 0 ≤ _)⟩)
    dsimp only [Pt.U, Pt.locs, Pt.cells, Pt.slots] at X104 l104 y104 z104 st104 hQ104
    subst l104 y104 z104
    refine Done.step st104 ?_
    obtain ⟨rfl, N104q, e104⟩ := hQ104
    have N104 := Fr.app N0 N104q
    show Done p e below s _ _ _ (T104.setTop (mkF m 138 #[.val (.int p1), .val (.long q2), .second, .val (.long q3), .second, .val (.long q4), .second, .val (.long q5), .second, .val (.int (0 : Int32)), .val (.double (FP.l2d q2)), .second, .val (.double (FP.l2d q3)), .second, .val (.double (FP.l2d q4)), .second, .val (.double (FP.l2d q5)), .second, .val (.ref b102), .val (.double FP.dconst0), .second, .unset, .unset] [(.double FP.dconst0)]))
    refine Done.step (fun t k => XS.dstore X104.here hx rfl (hb hby at_138) rfl (l' := #[.val (.int p1), .val (.long q2), .second, .val (.long q3), .second, .val (.long q4), .second, .val (.long q5), .second, .val (.int (0 : Int32)), .val (.double (FP.l2d q2)), .second, .val (.double (FP.l2d q3)), .second, .val (.double (FP.l2d q4)), .second, .val (.double (FP.l2d q5)), .second, .val (.ref b102), .val (.double FP.dconst0), .second, .val (.double FP.dconst0), .second]) rfl k) ?_
    show Done p e below s _ _ _ (T104.setTop (mkF m 140 #[.val (.int p1), .val (.long q2), .second, .val (.long q3), .second, .val (.long q4), .second, .val (.long q5), .second, .val (.int (0 : Int32)), .val (.double (FP.l2d q2)), .second, .val (.double (FP.l2d q3)), .second, .val (.double (FP.l2d q4)), .second, .val (.double (FP.l2d q5)), .second, .val (.ref b102), .val (.double FP.dconst0), .second, .val (.double FP.dconst0), .second] []))
    refine Done.step (fun t k => XS.dload X104.here hx rfl (hb hby at_140) rfl k) ?_
    show Done p e below s _ _ _ (T104.setTop (mkF m 142 #[.val (.int p1), .val (.long q2), .second, .val (.long q3), .second, .val (.long q4), .second, .val (.long q5), .second, .val (.int (0 : Int32)), .val (.double (FP.l2d q2)), .second, .val (.double (FP.l2d q3)), .second, .val (.double (FP.l2d q4)), .second, .val (.double (FP.l2d q5)), .second, .val (.ref b102), .val (.double FP.dconst0), .second, .val (.double FP.dconst0), .second] [(.double FP.dconst0)]))
    refine Done.step (fun t k => XS.dload X104.here hx rfl (hb hby at_142) rfl k) ?_
    show Done p e below s _ _ _ (T104.setTop (mkF m 144 #[.val (.int p1), .val (.long q2), .second, .val (.long q3), .second, .val (.long q4), .second, .val (.long q5), .second, .val (.int (0 : Int32)), .val (.double (FP.l2d q2)), .second, .val (.double (FP.l2d q3)), .second, .val (.double (FP.l2d q4)), .second, .val (.double (FP.l2d q5)), .second, .val (.ref b102), .val (.double FP.dconst0), .second, .val (.double FP.dconst0), .second] [(.double FP.dconst0), (.double FP.dconst0)]))
    refine Done.step (fun t k => XS.dcmpS X104.here hx rfl (hb hby at_144) rfl (dcmpV_self own_z _) k) ?_
    show Done p e below s _ _ _ (T104.setTop (mkF m 145 #[.val (.int p1), .val (.long q2), .second, .val (.long q3), .second, .val (.long q4), .second, .val (.long q5), .second, .val (.int (0 : Int32)), .val (.double (FP.l2d q2)), .second, .val (.double (FP.l2d q3)), .second, .val (.double (FP.l2d q4)), .second, .val (.double (FP.l2d q5)), .second, .val (.ref b102), .val (.double FP.dconst0), .second, .val (.double FP.dconst0), .second] [(.int (0 : Int32))]))
    refine Done.step (fun t k => XS.ifNo X104.here hx rfl (hb hby at_145) rfl ((if0 _ _).trans (teq (by decide)).2) k) ?_
    show Done p e below s _ _ _ (T104.setTop (mkF m 148 #[.val (.int p1), .val (.long q2), .second, .val (.long q3), .second, .val (.long q4), .second, .val (.long q5), .second, .val (.int (0 : Int32)), .val (.double (FP.l2d q2)), .second, .val (.double (FP.l2d q3)), .second, .val (.double (FP.l2d q4)), .second, .val (.double (FP.l2d q5)), .second, .val (.ref b102), .val (.double FP.dconst0), .second, .val (.double FP.dconst0), .second] []))
    refine Done.step (fun t k => XS.iconst X104.here hx rfl (hb hby at_148) k) ?_
    show Done p e below s _ _ _ (T104.setTop (mkF m 149 #[.val (.int p1), .val (.long q2), .second, .val (.long q3), .second, .val (.long q4), .second, .val (.long q5), .second, .val (.int (0 : Int32)), .val (.double (FP.l2d q2)), .second, .val (.double (FP.l2d q3)), .second, .val (.double (FP.l2d q4)), .second, .val (.double (FP.l2d q5)), .second, .val (.ref b102), .val (.double FP.dconst0), .second, .val (.double FP.dconst0), .second] [(.int (1 : Int32))]))
    refine Done.step (fun t k => XS.goto X104.here hx rfl (pc0 := 149) (pc' := 153) rfl (hb hby at_149) (by decide) (by decide) k) ?_
    show Done p e below s _ _ _ (T104.setTop (mkF m 153 #[.val (.int p1), .val (.long q2), .second, .val (.long q3), .second, .val (.long q4), .second, .val (.long q5), .second, .val (.int (0 : Int32)), .val (.double (FP.l2d q2)), .second, .val (.double (FP.l2d q3)), .second, .val (.double (FP.l2d q4)), .second, .val (.double (FP.l2d q5)), .second, .val (.ref b102), .val (.double FP.dconst0), .second, .val (.double FP.dconst0), .second] [(.int (1 : Int32))]))
    exact Done.narr X104 hx hlk hret (by simp) (hb hby at_153) (by decide) (by decide) ⟨rfl, N104⟩
  · subst hk
    show Done p e below s _ _ _ (s₁.setTop (mkF m 26 #[.val (.int p1), .val (.long q2), .second, .val (.long q3), .second, .val (.long q4), .second, .val (.long q5), .second, .val (.int (1 : Int32)), .val (.double (FP.l2d q2)), .second, .val (.double (FP.l2d q3)), .second, .val (.double (FP.l2d q4)), .second, .val (.double (FP.l2d q5)), .second, .unset, .unset, .unset, .unset, .unset] []))
    refine Done.step (fun t k => XS.iload X0.here hx rfl (hb hby at_26) rfl k) ?_
    show Done p e below s _ _ _ (s₁.setTop (mkF m 28 #[.val (.int p1), .val (.long q2), .second, .val (.long q3), .second, .val (.long q4), .second, .val (.long q5), .second, .val (.int (1 : Int32)), .val (.double (FP.l2d q2)), .second, .val (.double (FP.l2d q3)), .second, .val (.double (FP.l2d q4)), .second, .val (.double (FP.l2d q5)), .second, .unset, .unset, .unset, .unset, .unset] [(.int (1 : Int32))]))
    obtain ⟨T105, h105, k105, X105, e105, E105, A105, B105, st105⟩ := newPE X0 hx hZ (hw _ (List.mem_of_getElem? (i := 1) rfl)) e0 (g := (mkF m 28 #[.val (.int p1), .val (.long q2), .second, .val (.long q3), .second, .val (.long q4), .second, .val (.long q5), .second, .val (.int (1 : Int32)), .val (.double (FP.l2d q2)), .second, .val (.double (FP.l2d q3)), .second, .val (.double (FP.l2d q4)), .second, .val (.double (FP.l2d q5)), .second, .unset, .unset, .unset, .unset, .unset] [(.int (1 : Int32))])) rfl (hb hby at_28) rfl (by decide) (cap := 1) (by decide) (by decide) (by decide) (by decide) (ad := "[D") (by decide)
    obtain ⟨b105, gq105⟩ : ∃ z, z = h0.size := ⟨_, rfl⟩
    rw [← gq105] at A105 B105 st105
    have g_b105 : n0 ≤ b105 := Nat.le_trans Z0 (Nat.le_of_eq gq105.symm)
    have Z105 : n0 ≤ h105.size := Nat.le_trans Z0 E105.1
    have f106 : Ax Z h105 b105 .double [(.double (0 : UInt64))] := Ax.new (ty := .double) (i := 1) A105 (by decide)
    refine Done.step st105 ?_
    show Done p e below s _ _ _ (T105.setTop (mkF m 30 #[.val (.int p1), .val (.long q2), .second, .val (.long q3), .second, .val (.long q4), .second, .val (.long q5), .second, .val (.int (1 : Int32)), .val (.double (FP.l2d q2)), .second, .val (.double (FP.l2d q3)), .second, .val (.double (FP.l2d q4)), .second, .val (.double (FP.l2d q5)), .second, .unset, .unset, .unset, .unset, .unset] [(.ref b105)]))
    refine Done.step (fun t k => XS.astore X105.here hx rfl (hb hby at_30) rfl rfl (l' := #[.val (.int p1), .val (.long q2), .second, .val (.long q3), .second, .val (.long q4), .second, .val (.long q5), .second, .val (.int (1 : Int32)), .val (.double (FP.l2d q2)), .second, .val (.double (FP.l2d q3)), .second, .val (.double (FP.l2d q4)), .second, .val (.double (FP.l2d q5)), .second, .val (.ref b105), .unset, .unset, .unset, .unset]) rfl k) ?_
    show Done p e below s _ _ _ (T105.setTop (mkF m 32 #[.val (.int p1), .val (.long q2), .second, .val (.long q3), .second, .val (.long q4), .second, .val (.long q5), .second, .val (.int (1 : Int32)), .val (.double (FP.l2d q2)), .second, .val (.double (FP.l2d q3)), .second, .val (.double (FP.l2d q4)), .second, .val (.double (FP.l2d q5)), .second, .val (.ref b105), .unset, .unset, .unset, .unset] []))
    refine Done.step (fun t k => XS.iload X105.here hx rfl (hb hby at_32) rfl k) ?_
    show Done p e below s _ _ _ (T105.setTop (mkF m 34 #[.val (.int p1), .val (.long q2), .second, .val (.long q3), .second, .val (.long q4), .second, .val (.long q5), .second, .val (.int (1 : Int32)), .val (.double (FP.l2d q2)), .second, .val (.double (FP.l2d q3)), .second, .val (.double (FP.l2d q4)), .second, .val (.double (FP.l2d q5)), .second, .val (.ref b105), .unset, .unset, .unset, .unset] [(.int (1 : Int32))]))
    refine Done.step (fun t k => XS.ifNo X105.here hx rfl (hb hby at_34) rfl ((if0 _ _).trans (tlt (by decide)).2.2.2) k) ?_
    show Done p e below s _ _ _ (T105.setTop (mkF m 37 #[.val (.int p1), .val (.long q2), .second, .val (.long q3), .second, .val (.long q4), .second, .val (.long q5), .second, .val (.int (1 : Int32)), .val (.double (FP.l2d q2)), .second, .val (.double (FP.l2d q3)), .second, .val (.double (FP.l2d q4)), .second, .val (.double (FP.l2d q5)), .second, .val (.ref b105), .unset, .unset, .unset, .unset] []))
    refine Done.step (fun t k => XS.aload X105.here hx rfl (hb hby at_37) rfl rfl k) ?_
    show Done p e below s _ _ _ (T105.setTop (mkF m 39 #[.val (.int p1), .val (.long q2), .second, .val (.long q3), .second, .val (.long q4), .second, .val (.long q5), .second, .val (.int (1 : Int32)), .val (.double (FP.l2d q2)), .second, .val (.double (FP.l2d q3)), .second, .val (.double (FP.l2d q4)), .second, .val (.double (FP.l2d q5)), .second, .val (.ref b105), .unset, .unset, .unset, .unset] [(.ref b105)]))
    refine Done.step (fun t k => XS.iconst X105.here hx rfl (hb hby at_39) k) ?_
    show Done p e below s _ _ _ (T105.setTop (mkF m 40 #[.val (.int p1), .val (.long q2), .second, .val (.long q3), .second, .val (.long q4), .second, .val (.long q5), .second, .val (.int (1 : Int32)), .val (.double (FP.l2d q2)), .second, .val (.double (FP.l2d q3)), .second, .val (.double (FP.l2d q4)), .second, .val (.double (FP.l2d q5)), .second, .val (.ref b105), .unset, .unset, .unset, .unset] [(.int (0 : Int32)), (.ref b105)]))
    refine Done.step (fun t k => XS.dload X105.here hx rfl (hb hby at_40) rfl k) ?_
    show Done p e below s _ _ _ (T105.setTop (mkF m 42 #[.val (.int p1), .val (.long q2), .second, .val (.long q3), .second, .val (.long q4), .second, .val (.long q5), .second, .val (.int (1 : Int32)), .val (.double (FP.l2d q2)), .second, .val (.double (FP.l2d q3)), .second, .val (.double (FP.l2d q4)), .second, .val (.double (FP.l2d q5)), .second, .val (.ref b105), .unset, .unset, .unset, .unset] [(.double (FP.l2d q2)), (.int (0 : Int32)), (.ref b105)]))
    obtain ⟨T107, h107, X107, e107, W107, A107, st107⟩ := stoD X105 hx hZ e105 f106 (j := (0 : Int32)) (by decide) (i := 0) (by decide) (Nat.le_of_ble_eq_true rfl) (g := (mkF m 42 #[.val (.int p1), .val (.long q2), .second, .val (.long q3), .second, .val (.long q4), .second, .val (.long q5), .second, .val (.int (1 : Int32)), .val (.double (FP.l2d q2)), .second, .val (.double (FP.l2d q3)), .second, .val (.double (FP.l2d q4)), .second, .val (.double (FP.l2d q5)), .second, .val (.ref b105), .unset, .unset, .unset, .unset] [(.double (FP.l2d q2)), (.int (0 : Int32)), (.ref b105)])) rfl rfl (hb hby at_42)
    have f108 : Exa Z h107 b105 "[D" := B105.wr W107
    have f109 : Ax Z h107 b105 .double [(.double (FP.l2d q2))] := A107
    have Z107 : n0 ≤ h107.size := Nat.le_trans Z105 (Keep.of_wr W107).1
    have N107 := Fr.snoc X107 N0 g_b105
    refine Done.step st107 ?_
    show Done p e below s _ _ _ (T107.setTop (mkF m 43 #[.val (.int p1), .val (.long q2), .second, .val (.long q3), .second, .val (.long q4), .second, .val (.long q5), .second, .val (.int (1 : Int32)), .val (.double (FP.l2d q2)), .second, .val (.double (FP.l2d q3)), .second, .val (.double (FP.l2d q4)), .second, .val (.double (FP.l2d q5)), .second, .val (.ref b105), .unset, .unset, .unset, .unset] []))
    refine Done.step (fun t k => XS.iload X107.here hx rfl (hb hby at_43) rfl k) ?_
    show Done p e below s _ _ _ (T107.setTop (mkF m 45 #[.val (.int p1), .val (.long q2), .second, .val (.long q3), .second, .val (.long q4), .second, .val (.long q5), .second, .val (.int (1 : Int32)), .val (.double (FP.l2d q2)), .second, .val (.double (FP.l2d q3)), .second, .val (.double (FP.l2d q4)), .second, .val (.double (FP.l2d q5)), .second, .val (.ref b105), .unset, .unset, .unset, .unset] [(.int (1 : Int32))]))
    refine Done.step (fun t k => XS.iconst X107.here hx rfl (hb hby at_45) k) ?_
    show Done p e below s _ _ _ (T107.setTop (mkF m 46 #[.val (.int p1), .val (.long q2), .second, .val (.long q3), .second, .val (.long q4), .second, .val (.long q5), .second, .val (.int (1 : Int32)), .val (.double (FP.l2d q2)), .second, .val (.double (FP.l2d q3)), .second, .val (.double (FP.l2d q4)), .second, .val (.double (FP.l2d q5)), .second, .val (.ref b105), .unset, .unset, .unset, .unset] [(.int (1 : Int32)), (.int (1 : Int32))]))
    refine Done.step (fun t k => XS.icmpYes X107.here hx rfl (pc0 := 46) (pc' := 55) rfl (hb hby at_46) rfl (flt (by decide)).2.2.2 (by decide) (by decide) k) ?_
    show Done p e below s _ _ _ (T107.setTop (mkF m 55 #[.val (.int p1), .val (.long q2), .second, .val (.long q3), .second, .val (.long q4), .second, .val (.long q5), .second, .val (.int (1 : Int32)), .val (.double (FP.l2d q2)), .second, .val (.double (FP.l2d q3)), .second, .val (.double (FP.l2d q4)), .second, .val (.double (FP.l2d q5)), .second, .val (.ref b105), .unset, .unset, .unset, .unset] []))
    refine Done.step (fun t k => XS.iload X107.here hx rfl (hb hby at_55) rfl k) ?_
    show Done p e below s _ _ _ (T107.setTop (mkF m 57 #[.val (.int p1), .val (.long q2), .second, .val (.long q3), .second, .val (.long q4), .second, .val (.long q5), .second, .val (.int (1 : Int32)), .val (.double (FP.l2d q2)), .second, .val (.double (FP.l2d q3)), .second, .val (.double (FP.l2d q4)), .second, .val (.double (FP.l2d q5)), .second, .val (.ref b105), .unset, .unset, .unset, .unset] [(.int (1 : Int32))]))
    refine Done.step (fun t k => XS.iconst X107.here hx rfl (hb hby at_57) k) ?_
    show Done p e below s _ _ _ (T107.setTop (mkF m 58 #[.val (.int p1), .val (.long q2), .second, .val (.long q3), .second, .val (.long q4), .second, .val (.long q5), .second, .val (.int (1 : Int32)), .val (.double (FP.l2d q2)), .second, .val (.double (FP.l2d q3)), .second, .val (.double (FP.l2d q4)), .second, .val (.double (FP.l2d q5)), .second, .val (.ref b105), .unset, .unset, .unset, .unset] [(.int (2 : Int32)), (.int (1 : Int32))]))
    refine Done.step (fun t k => XS.icmpYes X107.here hx rfl (pc0 := 58) (pc' := 67) rfl (hb hby at_58) rfl (flt (by decide)).2.2.2 (by decide) (by decide) k) ?_
    show Done p e below s _ _ _ (T107.setTop (mkF m 67 #[.val (.int p1), .val (.long q2), .second, .val (.long q3), .second, .val (.long q4), .second, .val (.long q5), .second, .val (.int (1 : Int32)), .val (.double (FP.l2d q2)), .second, .val (.double (FP.l2d q3)), .second, .val (.double (FP.l2d q4)), .second, .val (.double (FP.l2d q5)), .second, .val (.ref b105), .unset, .unset, .unset, .unset] []))
    refine Done.step (fun t k => XS.iload X107.here hx rfl (hb hby at_67) rfl k) ?_
    show Done p e below s _ _ _ (T107.setTop (mkF m 69 #[.val (.int p1), .val (.long q2), .second, .val (.long q3), .second, .val (.long q4), .second, .val (.long q5), .second, .val (.int (1 : Int32)), .val (.double (FP.l2d q2)), .second, .val (.double (FP.l2d q3)), .second, .val (.double (FP.l2d q4)), .second, .val (.double (FP.l2d q5)), .second, .val (.ref b105), .unset, .unset, .unset, .unset] [(.int (1 : Int32))]))
    refine Done.step (fun t k => XS.iconst X107.here hx rfl (hb hby at_69) k) ?_
    show Done p e below s _ _ _ (T107.setTop (mkF m 70 #[.val (.int p1), .val (.long q2), .second, .val (.long q3), .second, .val (.long q4), .second, .val (.long q5), .second, .val (.int (1 : Int32)), .val (.double (FP.l2d q2)), .second, .val (.double (FP.l2d q3)), .second, .val (.double (FP.l2d q4)), .second, .val (.double (FP.l2d q5)), .second, .val (.ref b105), .unset, .unset, .unset, .unset] [(.int (3 : Int32)), (.int (1 : Int32))]))
    refine Done.step (fun t k => XS.icmpYes X107.here hx rfl (pc0 := 70) (pc' := 79) rfl (hb hby at_70) rfl (flt (by decide)).2.2.2 (by decide) (by decide) k) ?_
    show Done p e below s _ _ _ (T107.setTop (mkF m 79 #[.val (.int p1), .val (.long q2), .second, .val (.long q3), .second, .val (.long q4), .second, .val (.long q5), .second, .val (.int (1 : Int32)), .val (.double (FP.l2d q2)), .second, .val (.double (FP.l2d q3)), .second, .val (.double (FP.l2d q4)), .second, .val (.double (FP.l2d q5)), .second, .val (.ref b105), .unset, .unset, .unset, .unset] []))
    refine Done.step (fun t k => XS.dconst0 X107.here hx rfl (hb hby at_79) rfl k) ?_
    show Done p e below s _ _ _ (T107.setTop (mkF m 80 #[.val (.int p1), .val (.long q2), .second, .val (.long q3), .second, .val (.long q4), .second, .val (.long q5), .second, .val (.int (1 : Int32)), .val (.double (FP.l2d q2)), .second, .val (.double (FP.l2d q3)), .second, .val (.double (FP.l2d q4)), .second, .val (.double (FP.l2d q5)), .second, .val (.ref b105), .unset, .unset, .unset, .unset] [(.double FP.dconst0)]))
    refine Done.step (fun t k => XS.dstore X107.here hx rfl (hb hby at_80) rfl (l' := #[.val (.int p1), .val (.long q2), .second, .val (.long q3), .second, .val (.long q4), .second, .val (.long q5), .second, .val (.int (1 : Int32)), .val (.double (FP.l2d q2)), .second, .val (.double (FP.l2d q3)), .second, .val (.double (FP.l2d q4)), .second, .val (.double (FP.l2d q5)), .second, .val (.ref b105), .val (.double FP.dconst0), .second, .unset, .unset]) rfl k) ?_
    show Done p e below s _ _ _ (T107.setTop (mkF m 82 #[.val (.int p1), .val (.long q2), .second, .val (.long q3), .second, .val (.long q4), .second, .val (.long q5), .second, .val (.int (1 : Int32)), .val (.double (FP.l2d q2)), .second, .val (.double (FP.l2d q3)), .second, .val (.double (FP.l2d q4)), .second, .val (.double (FP.l2d q5)), .second, .val (.ref b105), .val (.double FP.dconst0), .second, .unset, .unset] []))
    refine Done.step (fun t k => XS.iload X107.here hx rfl (hb hby at_82) rfl k) ?_
    show Done p e below s _ _ _ (T107.setTop (mkF m 84 #[.val (.int p1), .val (.long q2), .second, .val (.long q3), .second, .val (.long q4), .second, .val (.long q5), .second, .val (.int (1 : Int32)), .val (.double (FP.l2d q2)), .second, .val (.double (FP.l2d q3)), .second, .val (.double (FP.l2d q4)), .second, .val (.double (FP.l2d q5)), .second, .val (.ref b105), .val (.double FP.dconst0), .second, .unset, .unset] [(.int (1 : Int32))]))
    refine Done.step (fun t k => XS.ifNo X107.here hx rfl (hb hby at_84) rfl ((if0 _ _).trans (tlt (by decide)).2.2.2) k) ?_
    show Done p e below s _ _ _ (T107.setTop (mkF m 87 #[.val (.int p1), .val (.long q2), .second, .val (.long q3), .second, .val (.long q4), .second, .val (.long q5), .second, .val (.int (1 : Int32)), .val (.double (FP.l2d q2)), .second, .val (.double (FP.l2d q3)), .second, .val (.double (FP.l2d q4)), .second, .val (.double (FP.l2d q5)), .second, .val (.ref b105), .val (.double FP.dconst0), .second, .unset, .unset] []))
    refine Done.step (fun t k => XS.dload X107.here hx rfl (hb hby at_87) rfl k) ?_
    show Done p e below s _ _ _ (T107.setTop (mkF m 89 #[.val (.int p1), .val (.long q2), .second, .val (.long q3), .second, .val (.long q4), .second, .val (.long q5), .second, .val (.int (1 : Int32)), .val (.double (FP.l2d q2)), .second, .val (.double (FP.l2d q3)), .second, .val (.double (FP.l2d q4)), .second, .val (.double (FP.l2d q5)), .second, .val (.ref b105), .val (.double FP.dconst0), .second, .unset, .unset] [(.double FP.dconst0)]))
    refine Done.step (fun t k => XS.dload X107.here hx rfl (hb hby at_89) rfl k) ?_
    show Done p e below s _ _ _ (T107.setTop (mkF m 91 #[.val (.int p1), .val (.long q2), .second, .val (.long q3), .second, .val (.long q4), .second, .val (.long q5), .second, .val (.int (1 : Int32)), .val (.double (FP.l2d q2)), .second, .val (.double (FP.l2d q3)), .second, .val (.double (FP.l2d q4)), .second, .val (.double (FP.l2d q5)), .second, .val (.ref b105), .val (.double FP.dconst0), .second, .unset, .unset] [(.double (FP.l2d q2)), (.double FP.dconst0)]))
    refine Done.step (fun t k => XS.daddS X107.here hx rfl (hb hby at_91) rfl (Jvm.Free.Fl.dadd_out own_z (Jvm.Free.Fl.l2d_fin q2)) rfl k) ?_
    show Done p e below s _ _ _ (T107.setTop (mkF m 92 #[.val (.int p1), .val (.long q2), .second, .val (.long q3), .second, .val (.long q4), .second, .val (.long q5), .second, .val (.int (1 : Int32)), .val (.double (FP.l2d q2)), .second, .val (.double (FP.l2d q3)), .second, .val (.double (FP.l2d q4)), .second, .val (.double (FP.l2d q5)), .second, .val (.ref b105), .val (.double FP.dconst0), .second, .unset, .unset] [(.double (FP.dadd FP.dconst0 (FP.l2d q2)))]))
    refine Done.step (fun t k => XS.dstore X107.here hx rfl (hb hby at_92) rfl (l' := #[.val (.int p1), .val (.long q2), .second, .val (.long q3), .second, .val (.long q4), .second, .val (.long q5), .second, .val (.int (1 : Int32)), .val (.double (FP.l2d q2)), .second, .val (.double (FP.l2d q3)), .second, .val (.double (FP.l2d q4)), .second, .val (.double (FP.l2d q5)), .second, .val (.ref b105), .val (.double (FP.dadd FP.dconst0 (FP.l2d q2))), .second, .unset, .unset]) rfl k) ?_
    show Done p e below s _ _ _ (T107.setTop (mkF m 94 #[.val (.int p1), .val (.long q2), .second, .val (.long q3), .second, .val (.long q4), .second, .val (.long q5), .second, .val (.int (1 : Int32)), .val (.double (FP.l2d q2)), .second, .val (.double (FP.l2d q3)), .second, .val (.double (FP.l2d q4)), .second, .val (.double (FP.l2d q5)), .second, .val (.ref b105), .val (.double (FP.dadd FP.dconst0 (FP.l2d q2))), .second, .unset, .unset] []))
    refine Done.step (fun t k => XS.iload X107.here hx rfl (hb hby at_94) rfl k) ?_
    show Done p e below s _ _ _ (T107.setTop (mkF m 96 #[.val (.int p1), .val (.long q2), .second, .val (.long q3), .second, .val (.long q4), .second, .val (.long q5), .second, .val (.int (1 : Int32)), .val (.double (FP.l2d q2)), .second, .val (.double (FP.l2d q3)), .second, .val (.double (FP.l2d q4)), .second, .val (.double (FP.l2d q5)), .second, .val (.ref b105), .val (.double (FP.dadd FP.dconst0 (FP.l2d q2))), .second, .unset, .unset] [(.int (1 : Int32))]))
    refine Done.step (fun t k => XS.iconst X107.here hx rfl (hb hby at_96) k) ?_
    show Done p e below s _ _ _ (T107.setTop (mkF m 97 #[.val (.int p1), .val (.long q2), .second, .val (.long q3), .second, .val (.long q4), .second, .val (.long q5), .second, .val (.int (1 : Int32)), .val (.double (FP.l2d q2)), .second, .val (.double (FP.l2d q3)), .second, .val (.double (FP.l2d q4)), .second, .val (.double (FP.l2d q5)), .second, .val (.ref b105), .val (.double (FP.dadd FP.dconst0 (FP.l2d q2))), .second, .unset, .unset] [(.int (1 : Int32)), (.int (1 : Int32))]))
    refine Done.step (fun t k => XS.icmpYes X107.here hx rfl (pc0 := 97) (pc' := 107) rfl (hb hby at_97) rfl (flt (by decide)).2.2.2 (by decide) (by decide) k) ?_
    show Done p e below s _ _ _ (T107.setTop (mkF m 107 #[.val (.int p1), .val (.long q2), .second, .val (.long q3), .second, .val (.long q4), .second, .val (.long q5), .second, .val (.int (1 : Int32)), .val (.double (FP.l2d q2)), .second, .val (.double (FP.l2d q3)), .second, .val (.double (FP.l2d q4)), .second, .val (.double (FP.l2d q5)), .second, .val (.ref b105), .val (.double (FP.dadd FP.dconst0 (FP.l2d q2))), .second, .unset, .unset] []))
    refine Done.step (fun t k => XS.iload X107.here hx rfl (hb hby at_107) rfl k) ?_
    show Done p e below s _ _ _ (T107.setTop (mkF m 109 #[.val (.int p1), .val (.long q2), .second, .val (.long q3), .second, .val (.long q4), .second, .val (.long q5), .second, .val (.int (1 : Int32)), .val (.double (FP.l2d q2)), .second, .val (.double (FP.l2d q3)), .second, .val (.double (FP.l2d q4)), .second, .val (.double (FP.l2d q5)), .second, .val (.ref b105), .val (.double (FP.dadd FP.dconst0 (FP.l2d q2))), .second, .unset, .unset] [(.int (1 : Int32))]))
    refine Done.step (fun t k => XS.iconst X107.here hx rfl (hb hby at_109) k) ?_
    show Done p e below s _ _ _ (T107.setTop (mkF m 110 #[.val (.int p1), .val (.long q2), .second, .val (.long q3), .second, .val (.long q4), .second, .val (.long q5), .second, .val (.int (1 : Int32)), .val (.double (FP.l2d q2)), .second, .val (.double (FP.l2d q3)), .second, .val (.double (FP.l2d q4)), .second, .val (.double (FP.l2d q5)), .second, .val (.ref b105), .val (.double (FP.dadd FP.dconst0 (FP.l2d q2))), .second, .unset, .unset] [(.int (2 : Int32)), (.int (1 : Int32))]))
    refine Done.step (fun t k => XS.icmpYes X107.here hx rfl (pc0 := 110) (pc' := 120) rfl (hb hby at_110) rfl (flt (by decide)).2.2.2 (by decide) (by decide) k) ?_
    show Done p e below s _ _ _ (T107.setTop (mkF m 120 #[.val (.int p1), .val (.long q2), .second, .val (.long q3), .second, .val (.long q4), .second, .val (.long q5), .second, .val (.int (1 : Int32)), .val (.double (FP.l2d q2)), .second, .val (.double (FP.l2d q3)), .second, .val (.double (FP.l2d q4)), .second, .val (.double (FP.l2d q5)), .second, .val (.ref b105), .val (.double (FP.dadd FP.dconst0 (FP.l2d q2))), .second, .unset, .unset] []))
    refine Done.step (fun t k => XS.iload X107.here hx rfl (hb hby at_120) rfl k) ?_
    show Done p e below s _ _ _ (T107.setTop (mkF m 122 #[.val (.int p1), .val (.long q2), .second, .val (.long q3), .second, .val (.long q4), .second, .val (.long q5), .second, .val (.int (1 : Int32)), .val (.double (FP.l2d q2)), .second, .val (.double (FP.l2d q3)), .second, .val (.double (FP.l2d q4)), .second, .val (.double (FP.l2d q5)), .second, .val (.ref b105), .val (.double (FP.dadd FP.dconst0 (FP.l2d q2))), .second, .unset, .unset] [(.int (1 : Int32))]))
    refine Done.step (fun t k => XS.iconst X107.here hx rfl (hb hby at_122) k) ?_
    show Done p e below s _ _ _ (T107.setTop (mkF m 123 #[.val (.int p1), .val (.long q2), .second, .val (.long q3), .second, .val (.long q4), .second, .val (.long q5), .second, .val (.int (1 : Int32)), .val (.double (FP.l2d q2)), .second, .val (.double (FP.l2d q3)), .second, .val (.double (FP.l2d q4)), .second, .val (.double (FP.l2d q5)), .second, .val (.ref b105), .val (.double (FP.dadd FP.dconst0 (FP.l2d q2))), .second, .unset, .unset] [(.int (3 : Int32)), (.int (1 : Int32))]))
    refine Done.step (fun t k => XS.icmpYes X107.here hx rfl (pc0 := 123) (pc' := 133) rfl (hb hby at_123) rfl (flt (by decide)).2.2.2 (by decide) (by decide) k) ?_
    show Done p e below s _ _ _ (T107.setTop (mkF m 133 #[.val (.int p1), .val (.long q2), .second, .val (.long q3), .second, .val (.long q4), .second, .val (.long q5), .second, .val (.int (1 : Int32)), .val (.double (FP.l2d q2)), .second, .val (.double (FP.l2d q3)), .second, .val (.double (FP.l2d q4)), .second, .val (.double (FP.l2d q5)), .second, .val (.ref b105), .val (.double (FP.dadd FP.dconst0 (FP.l2d q2))), .second, .unset, .unset] []))
    refine Done.step (fun t k => XS.aload X107.here hx rfl (hb hby at_133) rfl rfl k) ?_
    show Done p e below s _ _ _ (T107.setTop (mkF m 135 #[.val (.int p1), .val (.long q2), .second, .val (.long q3), .second, .val (.long q4), .second, .val (.long q5), .second, .val (.int (1 : Int32)), .val (.double (FP.l2d q2)), .second, .val (.double (FP.l2d q3)), .second, .val (.double (FP.l2d q4)), .second, .val (.double (FP.l2d q5)), .second, .val (.ref b105), .val (.double (FP.dadd FP.dconst0 (FP.l2d q2))), .second, .unset, .unset] [(.ref b105)]))
    obtain ⟨v110, _, ⟨T110, L110, k110, n110⟩, -, X110, ⟨Lc110, hQ110, l110, y110, z110⟩, st110⟩ := Jvm.LawKit.callS X107 hx (y := (⟨"com/example/wardsum/wardsum/algorithm/TargetNodes", "sum", "([D)D"⟩ : MethodName)) hown (mvT hZ (hw _ (List.mem_of_getElem? (i := 2) rfl))) (mvT hZ (hw _ (List.mem_of_getElem? (i := 3) rfl))) (mvT hZ (hw _ (List.mem_of_getElem? (i := 4) rfl))) (mvT hZ (hw _ (List.mem_of_getElem? (i := 5) rfl))) (by decide) (backOf (W := 0) (rms1 l Z a0 hw [] b105 (FP.l2d q2) h107 n0 Z107 f109 (Jvm.Free.Fl.l2d_fin q2)) hZ (hw _ (List.mem_of_getElem? (i := 5) rfl)) (hw _ (List.mem_of_getElem? (i := 4) rfl)) (by decide) (by decide)) (g := (mkF m 135 #[.val (.int p1), .val (.long q2), .second, .val (.long q3), .second, .val (.long q4), .second, .val (.long q5), .second, .val (.int (1 : Int32)), .val (.double (FP.l2d q2)), .second, .val (.double (FP.l2d q3)), .second, .val (.double (FP.l2d q4)), .second, .val (.double (FP.l2d q5)), .second, .val (.ref b105), .val (.double (FP.dadd FP.dconst0 (FP.l2d q2))), .second, .unset, .unset] [(.ref b105)])) rfl (by rw [hml]; rfl) (argsL := [(.ref b105)]) (rest := []) (lenOf pd_0 rfl) rfl (by show 2 * 0 + _ ≤ _; exact Nat.le_of_eq rfl) (hb hby at_135) (fun _ _ => ⟨rfl, e107, (by decide : 1 + 0 ≤ _), (by decide : 1 + 0 ≤ _)⟩)
    dsimp only [Pt.U, Pt.locs, Pt.cells, Pt.slots] at X110 l110 y110 z110 st110 hQ110
    subst l110 y110 z110
    refine Done.step st110 ?_
    obtain ⟨rfl, N110q, e110⟩ := hQ110
    have N110 := Fr.app N107 N110q
    show Done p e below s _ _ _ (T110.setTop (mkF m 138 #[.val (.int p1), .val (.long q2), .second, .val (.long q3), .second, .val (.long q4), .second, .val (.long q5), .second, .val (.int (1 : Int32)), .val (.double (FP.l2d q2)), .second, .val (.double (FP.l2d q3)), .second, .val (.double (FP.l2d q4)), .second, .val (.double (FP.l2d q5)), .second, .val (.ref b105), .val (.double (FP.dadd FP.dconst0 (FP.l2d q2))), .second, .unset, .unset] [(.double (FP.dadd FP.dconst0 (FP.l2d q2)))]))
    refine Done.step (fun t k => XS.dstore X110.here hx rfl (hb hby at_138) rfl (l' := #[.val (.int p1), .val (.long q2), .second, .val (.long q3), .second, .val (.long q4), .second, .val (.long q5), .second, .val (.int (1 : Int32)), .val (.double (FP.l2d q2)), .second, .val (.double (FP.l2d q3)), .second, .val (.double (FP.l2d q4)), .second, .val (.double (FP.l2d q5)), .second, .val (.ref b105), .val (.double (FP.dadd FP.dconst0 (FP.l2d q2))), .second, .val (.double (FP.dadd FP.dconst0 (FP.l2d q2))), .second]) rfl k) ?_
    show Done p e below s _ _ _ (T110.setTop (mkF m 140 #[.val (.int p1), .val (.long q2), .second, .val (.long q3), .second, .val (.long q4), .second, .val (.long q5), .second, .val (.int (1 : Int32)), .val (.double (FP.l2d q2)), .second, .val (.double (FP.l2d q3)), .second, .val (.double (FP.l2d q4)), .second, .val (.double (FP.l2d q5)), .second, .val (.ref b105), .val (.double (FP.dadd FP.dconst0 (FP.l2d q2))), .second, .val (.double (FP.dadd FP.dconst0 (FP.l2d q2))), .second] []))
    refine Done.step (fun t k => XS.dload X110.here hx rfl (hb hby at_140) rfl k) ?_
    show Done p e below s _ _ _ (T110.setTop (mkF m 142 #[.val (.int p1), .val (.long q2), .second, .val (.long q3), .second, .val (.long q4), .second, .val (.long q5), .second, .val (.int (1 : Int32)), .val (.double (FP.l2d q2)), .second, .val (.double (FP.l2d q3)), .second, .val (.double (FP.l2d q4)), .second, .val (.double (FP.l2d q5)), .second, .val (.ref b105), .val (.double (FP.dadd FP.dconst0 (FP.l2d q2))), .second, .val (.double (FP.dadd FP.dconst0 (FP.l2d q2))), .second] [(.double (FP.dadd FP.dconst0 (FP.l2d q2)))]))
    refine Done.step (fun t k => XS.dload X110.here hx rfl (hb hby at_142) rfl k) ?_
    show Done p e below s _ _ _ (T110.setTop (mkF m 144 #[.val (.int p1), .val (.long q2), .second, .val (.long q3), .second, .val (.long q4), .second, .val (.long q5), .second, .val (.int (1 : Int32)), .val (.double (FP.l2d q2)), .second, .val (.double (FP.l2d q3)), .second, .val (.double (FP.l2d q4)), .second, .val (.double (FP.l2d q5)), .second, .val (.ref b105), .val (.double (FP.dadd FP.dconst0 (FP.l2d q2))), .second, .val (.double (FP.dadd FP.dconst0 (FP.l2d q2))), .second] [(.double (FP.dadd FP.dconst0 (FP.l2d q2))), (.double (FP.dadd FP.dconst0 (FP.l2d q2)))]))
    refine Done.step (fun t k => XS.dcmpS X110.here hx rfl (hb hby at_144) rfl (dcmpV_self (Jvm.Free.Fl.dadd_out own_z (Jvm.Free.Fl.l2d_fin q2)) _) k) ?_
    show Done p e below s _ _ _ (T110.setTop (mkF m 145 #[.val (.int p1), .val (.long q2), .second, .val (.long q3), .second, .val (.long q4), .second, .val (.long q5), .second, .val (.int (1 : Int32)), .val (.double (FP.l2d q2)), .second, .val (.double (FP.l2d q3)), .second, .val (.double (FP.l2d q4)), .second, .val (.double (FP.l2d q5)), .second, .val (.ref b105), .val (.double (FP.dadd FP.dconst0 (FP.l2d q2))), .second, .val (.double (FP.dadd FP.dconst0 (FP.l2d q2))), .second] [(.int (0 : Int32))]))
    refine Done.step (fun t k => XS.ifNo X110.here hx rfl (hb hby at_145) rfl ((if0 _ _).trans (teq (by decide)).2) k) ?_
    show Done p e below s _ _ _ (T110.setTop (mkF m 148 #[.val (.int p1), .val (.long q2), .second, .val (.long q3), .second, .val (.long q4), .second, .val (.long q5), .second, .val (.int (1 : Int32)), .val (.double (FP.l2d q2)), .second, .val (.double (FP.l2d q3)), .second, .val (.double (FP.l2d q4)), .second, .val (.double (FP.l2d q5)), .second, .val (.ref b105), .val (.double (FP.dadd FP.dconst0 (FP.l2d q2))), .second, .val (.double (FP.dadd FP.dconst0 (FP.l2d q2))), .second] []))
    refine Done.step (fun t k => XS.iconst X110.here hx rfl (hb hby at_148) k) ?_
    show Done p e below s _ _ _ (T110.setTop (mkF m 149 #[.val (.int p1), .val (.long q2), .second, .val (.long q3), .second, .val (.long q4), .second, .val (.long q5), .second, .val (.int (1 : Int32)), .val (.double (FP.l2d q2)), .second, .val (.double (FP.l2d q3)), .second, .val (.double (FP.l2d q4)), .second, .val (.double (FP.l2d q5)), .second, .val (.ref b105), .val (.double (FP.dadd FP.dconst0 (FP.l2d q2))), .second, .val (.double (FP.dadd FP.dconst0 (FP.l2d q2))), .second] [(.int (1 : Int32))]))
    refine Done.step (fun t k => XS.goto X110.here hx rfl (pc0 := 149) (pc' := 153) rfl (hb hby at_149) (by decide) (by decide) k) ?_
    show Done p e below s _ _ _ (T110.setTop (mkF m 153 #[.val (.int p1), .val (.long q2), .second, .val (.long q3), .second, .val (.long q4), .second, .val (.long q5), .second, .val (.int (1 : Int32)), .val (.double (FP.l2d q2)), .second, .val (.double (FP.l2d q3)), .second, .val (.double (FP.l2d q4)), .second, .val (.double (FP.l2d q5)), .second, .val (.ref b105), .val (.double (FP.dadd FP.dconst0 (FP.l2d q2))), .second, .val (.double (FP.dadd FP.dconst0 (FP.l2d q2))), .second] [(.int (1 : Int32))]))
    exact Done.narr X110 hx hlk hret (by simp) (hb hby at_153) (by decide) (by decide) ⟨rfl, N110⟩
  · subst hk
    show Done p e below s _ _ _ (s₁.setTop (mkF m 26 #[.val (.int p1), .val (.long q2), .second, .val (.long q3), .second, .val (.long q4), .second, .val (.long q5), .second, .val (.int (2 : Int32)), .val (.double (FP.l2d q2)), .second, .val (.double (FP.l2d q3)), .second, .val (.double (FP.l2d q4)), .second, .val (.double (FP.l2d q5)), .second, .unset, .unset, .unset, .unset, .unset] []))
    refine Done.step (fun t k => XS.iload X0.here hx rfl (hb hby at_26) rfl k) ?_
    show Done p e below s _ _ _ (s₁.setTop (mkF m 28 #[.val (.int p1), .val (.long q2), .second, .val (.long q3), .second, .val (.long q4), .second, .val (.long q5), .second, .val (.int (2 : Int32)), .val (.double (FP.l2d q2)), .second, .val (.double (FP.l2d q3)), .second, .val (.double (FP.l2d q4)), .second, .val (.double (FP.l2d q5)), .second, .unset, .unset, .unset, .unset, .unset] [(.int (2 : Int32))]))
    obtain ⟨T111, h111, k111, X111, e111, E111, A111, B111, st111⟩ := newPE X0 hx hZ (hw _ (List.mem_of_getElem? (i := 1) rfl)) e0 (g := (mkF m 28 #[.val (.int p1), .val (.long q2), .second, .val (.long q3), .second, .val (.long q4), .second, .val (.long q5), .second, .val (.int (2 : Int32)), .val (.double (FP.l2d q2)), .second, .val (.double (FP.l2d q3)), .second, .val (.double (FP.l2d q4)), .second, .val (.double (FP.l2d q5)), .second, .unset, .unset, .unset, .unset, .unset] [(.int (2 : Int32))])) rfl (hb hby at_28) rfl (by decide) (cap := 2) (by decide) (by decide) (by decide) (by decide) (ad := "[D") (by decide)
    obtain ⟨b111, gq111⟩ : ∃ z, z = h0.size := ⟨_, rfl⟩
    rw [← gq111] at A111 B111 st111
    have g_b111 : n0 ≤ b111 := Nat.le_trans Z0 (Nat.le_of_eq gq111.symm)
    have Z111 : n0 ≤ h111.size := Nat.le_trans Z0 E111.1
    have f112 : Ax Z h111 b111 .double [(.double (0 : UInt64)), (.double (0 : UInt64))] := Ax.new (ty := .double) (i := 2) A111 (by decide)
    refine Done.step st111 ?_
    show Done p e below s _ _ _ (T111.setTop (mkF m 30 #[.val (.int p1), .val (.long q2), .second, .val (.long q3), .second, .val (.long q4), .second, .val (.long q5), .second, .val (.int (2 : Int32)), .val (.double (FP.l2d q2)), .second, .val (.double (FP.l2d q3)), .second, .val (.double (FP.l2d q4)), .second, .val (.double (FP.l2d q5)), .second, .unset, .unset, .unset, .unset, .unset] [(.ref b111)]))
    refine Done.step (fun t k => XS.astore X111.here hx rfl (hb hby at_30) rfl rfl (l' := #[.val (.int p1), .val (.long q2), .second, .val (.long q3), .second, .val (.long q4), .second, .val (.long q5), .second, .val (.int (2 : Int32)), .val (.double (FP.l2d q2)), .second, .val (.double (FP.l2d q3)), .second, .val (.double (FP.l2d q4)), .second, .val (.double (FP.l2d q5)), .second, .val (.ref b111), .unset, .unset, .unset, .unset]) rfl k) ?_
    show Done p e below s _ _ _ (T111.setTop (mkF m 32 #[.val (.int p1), .val (.long q2), .second, .val (.long q3), .second, .val (.long q4), .second, .val (.long q5), .second, .val (.int (2 : Int32)), .val (.double (FP.l2d q2)), .second, .val (.double (FP.l2d q3)), .second, .val (.double (FP.l2d q4)), .second, .val (.double (FP.l2d q5)), .second, .val (.ref b111), .unset, .unset, .unset, .unset] []))
    refine Done.step (fun t k => XS.iload X111.here hx rfl (hb hby at_32) rfl k) ?_
    show Done p e below s _ _ _ (T111.setTop (mkF m 34 #[.val (.int p1), .val (.long q2), .second, .val (.long q3), .second, .val (.long q4), .second, .val (.long q5), .second, .val (.int (2 : Int32)), .val (.double (FP.l2d q2)), .second, .val (.double (FP.l2d q3)), .second, .val (.double (FP.l2d q4)), .second, .val (.double (FP.l2d q5)), .second, .val (.ref b111), .unset, .unset, .unset, .unset] [(.int (2 : Int32))]))
    refine Done.step (fun t k => XS.ifNo X111.here hx rfl (hb hby at_34) rfl ((if0 _ _).trans (tlt (by decide)).2.2.2) k) ?_
    show Done p e below s _ _ _ (T111.setTop (mkF m 37 #[.val (.int p1), .val (.long q2), .second, .val (.long q3), .second, .val (.long q4), .second, .val (.long q5), .second, .val (.int (2 : Int32)), .val (.double (FP.l2d q2)), .second, .val (.double (FP.l2d q3)), .second, .val (.double (FP.l2d q4)), .second, .val (.double (FP.l2d q5)), .second, .val (.ref b111), .unset, .unset, .unset, .unset] []))
    refine Done.step (fun t k => XS.aload X111.here hx rfl (hb hby at_37) rfl rfl k) ?_
    show Done p e below s _ _ _ (T111.setTop (mkF m 39 #[.val (.int p1), .val (.long q2), .second, .val (.long q3), .second, .val (.long q4), .second, .val (.long q5), .second, .val (.int (2 : Int32)), .val (.double (FP.l2d q2)), .second, .val (.double (FP.l2d q3)), .second, .val (.double (FP.l2d q4)), .second, .val (.double (FP.l2d q5)), .second, .val (.ref b111), .unset, .unset, .unset, .unset] [(.ref b111)]))
    refine Done.step (fun t k => XS.iconst X111.here hx rfl (hb hby at_39) k) ?_
    show Done p e below s _ _ _ (T111.setTop (mkF m 40 #[.val (.int p1), .val (.long q2), .second, .val (.long q3), .second, .val (.long q4), .second, .val (.long q5), .second, .val (.int (2 : Int32)), .val (.double (FP.l2d q2)), .second, .val (.double (FP.l2d q3)), .second, .val (.double (FP.l2d q4)), .second, .val (.double (FP.l2d q5)), .second, .val (.ref b111), .unset, .unset, .unset, .unset] [(.int (0 : Int32)), (.ref b111)]))
    refine Done.step (fun t k => XS.dload X111.here hx rfl (hb hby at_40) rfl k) ?_
    show Done p e below s _ _ _ (T111.setTop (mkF m 42 #[.val (.int p1), .val (.long q2), .second, .val (.long q3), .second, .val (.long q4), .second, .val (.long q5), .second, .val (.int (2 : Int32)), .val (.double (FP.l2d q2)), .second, .val (.double (FP.l2d q3)), .second, .val (.double (FP.l2d q4)), .second, .val (.double (FP.l2d q5)), .second, .val (.ref b111), .unset, .unset, .unset, .unset] [(.double (FP.l2d q2)), (.int (0 : Int32)), (.ref b111)]))
    obtain ⟨T113, h113, X113, e113, W113, A113, st113⟩ := stoD X111 hx hZ e111 f112 (j := (0 : Int32)) (by decide) (i := 0) (by decide) (Nat.le_of_ble_eq_true rfl) (g := (mkF m 42 #[.val (.int p1), .val (.long q2), .second, .val (.long q3), .second, .val (.long q4), .second, .val (.long q5), .second, .val (.int (2 : Int32)), .val (.double (FP.l2d q2)), .second, .val (.double (FP.l2d q3)), .second, .val (.double (FP.l2d q4)), .second, .val (.double (FP.l2d q5)), .second, .val (.ref b111), .unset, .unset, .unset, .unset] [(.double (FP.l2d q2)), (.int (0 : Int32)), (.ref b111)])) rfl rfl (hb hby at_42)
    have f114 : Exa Z h113 b111 "[D" := B111.wr W113
    have f115 : Ax Z h113 b111 .double [(.double (FP.l2d q2)), (.double (0 : UInt64))] := A113
    have Z113 : n0 ≤ h113.size := Nat.le_trans Z111 (Keep.of_wr W113).1
    have N113 := Fr.snoc X113 N0 g_b111
    refine Done.step st113 ?_
    show Done p e below s _ _ _ (T113.setTop (mkF m 43 #[.val (.int p1), .val (.long q2), .second, .val (.long q3), .second, .val (.long q4), .second, .val (.long q5), .second, .val (.int (2 : Int32)), .val (.double (FP.l2d q2)), .second, .val (.double (FP.l2d q3)), .second, .val (.double (FP.l2d q4)), .second, .val (.double (FP.l2d q5)), .second, .val (.ref b111), .unset, .unset, .unset, .unset] []))
    refine Done.step (fun t k => XS.iload X113.here hx rfl (hb hby at_43) rfl k) ?_
    show Done p e below s _ _ _ (T113.setTop (mkF m 45 #[.val (.int p1), .val (.long q2), .second, .val (.long q3), .second, .val (.long q4), .second, .val (.long q5), .second, .val (.int (2 : Int32)), .val (.double (FP.l2d q2)), .second, .val (.double (FP.l2d q3)), .second, .val (.double (FP.l2d q4)), .second, .val (.double (FP.l2d q5)), .second, .val (.ref b111), .unset, .unset, .unset, .unset] [(.int (2 : Int32))]))
    refine Done.step (fun t k => XS.iconst X113.here hx rfl (hb hby at_45) k) ?_
    show Done p e below s _ _ _ (T113.setTop (mkF m 46 #[.val (.int p1), .val (.long q2), .second, .val (.long q3), .second, .val (.long q4), .second, .val (.long q5), .second, .val (.int (2 : Int32)), .val (.double (FP.l2d q2)), .second, .val (.double (FP.l2d q3)), .second, .val (.double (FP.l2d q4)), .second, .val (.double (FP.l2d q5)), .second, .val (.ref b111), .unset, .unset, .unset, .unset] [(.int (1 : Int32)), (.int (2 : Int32))]))
    refine Done.step (fun t k => XS.icmpNo X113.here hx rfl (hb hby at_46) rfl (tlt (by decide)).2.2.2 k) ?_
    show Done p e below s _ _ _ (T113.setTop (mkF m 49 #[.val (.int p1), .val (.long q2), .second, .val (.long q3), .second, .val (.long q4), .second, .val (.long q5), .second, .val (.int (2 : Int32)), .val (.double (FP.l2d q2)), .second, .val (.double (FP.l2d q3)), .second, .val (.double (FP.l2d q4)), .second, .val (.double (FP.l2d q5)), .second, .val (.ref b111), .unset, .unset, .unset, .unset] []))
    refine Done.step (fun t k => XS.aload X113.here hx rfl (hb hby at_49) rfl rfl k) ?_
    show Done p e below s _ _ _ (T113.setTop (mkF m 51 #[.val (.int p1), .val (.long q2), .second, .val (.long q3), .second, .val (.long q4), .second, .val (.long q5), .second, .val (.int (2 : Int32)), .val (.double (FP.l2d q2)), .second, .val (.double (FP.l2d q3)), .second, .val (.double (FP.l2d q4)), .second, .val (.double (FP.l2d q5)), .second, .val (.ref b111), .unset, .unset, .unset, .unset] [(.ref b111)]))
    refine Done.step (fun t k => XS.iconst X113.here hx rfl (hb hby at_51) k) ?_
    show Done p e below s _ _ _ (T113.setTop (mkF m 52 #[.val (.int p1), .val (.long q2), .second, .val (.long q3), .second, .val (.long q4), .second, .val (.long q5), .second, .val (.int (2 : Int32)), .val (.double (FP.l2d q2)), .second, .val (.double (FP.l2d q3)), .second, .val (.double (FP.l2d q4)), .second, .val (.double (FP.l2d q5)), .second, .val (.ref b111), .unset, .unset, .unset, .unset] [(.int (1 : Int32)), (.ref b111)]))
    refine Done.step (fun t k => XS.dload X113.here hx rfl (hb hby at_52) rfl k) ?_
    show Done p e below s _ _ _ (T113.setTop (mkF m 54 #[.val (.int p1), .val (.long q2), .second, .val (.long q3), .second, .val (.long q4), .second, .val (.long q5), .second, .val (.int (2 : Int32)), .val (.double (FP.l2d q2)), .second, .val (.double (FP.l2d q3)), .second, .val (.double (FP.l2d q4)), .second, .val (.double (FP.l2d q5)), .second, .val (.ref b111), .unset, .unset, .unset, .unset] [(.double (FP.l2d q3)), (.int (1 : Int32)), (.ref b111)]))
    obtain ⟨T116, h116, X116, e116, W116, A116, st116⟩ := stoD X113 hx hZ e113 f115 (j := (1 : Int32)) (by decide) (i := 1) (by decide) (Nat.le_of_ble_eq_true rfl) (g := (mkF m 54 #[.val (.int p1), .val (.long q2), .second, .val (.long q3), .second, .val (.long q4), .second, .val (.long q5), .second, .val (.int (2 : Int32)), .val (.double (FP.l2d q2)), .second, .val (.double (FP.l2d q3)), .second, .val (.double (FP.l2d q4)), .second, .val (.double (FP.l2d q5)), .second, .val (.ref b111), .unset, .unset, .unset, .unset] [(.double (FP.l2d q3)), (.int (1 : Int32)), (.ref b111)])) rfl rfl (hb hby at_54)
    have f117 : Exa Z h116 b111 "[D" := f114.wr W116
    have f118 : Ax Z h116 b111 .double [(.double (FP.l2d q2)), (.double (FP.l2d q3))] := A116
    have Z116 : n0 ≤ h116.size := Nat.le_trans Z113 (Keep.of_wr W116).1
    have N116 := Fr.snoc X116 N113 g_b111
    refine Done.step st116 ?_
    show Done p e below s _ _ _ (T116.setTop (mkF m 55 #[.val (.int p1), .val (.long q2), .second, .val (.long q3), .second, .val (.long q4), .second, .val (.long q5), .second, .val (.int (2 : Int32)), .val (.double (FP.l2d q2)), .second, .val (.double (FP.l2d q3)), .second, .val (.double (FP.l2d q4)), .second, .val (.double (FP.l2d q5)), .second, .val (.ref b111), .unset, .unset, .unset, .unset] []))
    refine Done.step (fun t k => XS.iload X116.here hx rfl (hb hby at_55) rfl k) ?_
    show Done p e below s _ _ _ (T116.setTop (mkF m 57 #[.val (.int p1), .val (.long q2), .second, .val (.long q3), .second, .val (.long q4), .second, .val (.long q5), .second, .val (.int (2 : Int32)), .val (.double (FP.l2d q2)), .second, .val (.double (FP.l2d q3)), .second, .val (.double (FP.l2d q4)), .second, .val (.double (FP.l2d q5)), .second, .val (.ref b111), .unset, .unset, .unset, .unset] [(.int (2 : Int32))]))
    refine Done.step (fun t k => XS.iconst X116.here hx rfl (hb hby at_57) k) ?_
    show Done p e below s _ _ _ (T116.setTop (mkF m 58 #[.val (.int p1), .val (.long q2), .second, .val (.long q3), .second, .val (.long q4), .second, .val (.long q5), .second, .val (.int (2 : Int32)), .val (.double (FP.l2d q2)), .second, .val (.double (FP.l2d q3)), .second, .val (.double (FP.l2d q4)), .second, .val (.double (FP.l2d q5)), .second, .val (.ref b111), .unset, .unset, .unset, .unset] [(.int (2 : Int32)), (.int (2 : Int32))]))
    refine Done.step (fun t k => XS.icmpYes X116.here hx rfl (pc0 := 58) (pc' := 67) rfl (hb hby at_58) rfl (flt (by decide)).2.2.2 (by decide) (by decide) k) ?_
    show Done p e below s _ _ _ (T116.setTop (mkF m 67 #[.val (.int p1), .val (.long q2), .second, .val (.long q3), .second, .val (.long q4), .second, .val (.long q5), .second, .val (.int (2 : Int32)), .val (.double (FP.l2d q2)), .second, .val (.double (FP.l2d q3)), .second, .val (.double (FP.l2d q4)), .second, .val (.double (FP.l2d q5)), .second, .val (.ref b111), .unset, .unset, .unset, .unset] []))
    refine Done.step (fun t k => XS.iload X116.here hx rfl (hb hby at_67) rfl k) ?_
    show Done p e below s _ _ _ (T116.setTop (mkF m 69 #[.val (.int p1), .val (.long q2), .second, .val (.long q3), .second, .val (.long q4), .second, .val (.long q5), .second, .val (.int (2 : Int32)), .val (.double (FP.l2d q2)), .second, .val (.double (FP.l2d q3)), .second, .val (.double (FP.l2d q4)), .second, .val (.double (FP.l2d q5)), .second, .val (.ref b111), .unset, .unset, .unset, .unset] [(.int (2 : Int32))]))
    refine Done.step (fun t k => XS.iconst X116.here hx rfl (hb hby at_69) k) ?_
    show Done p e below s _ _ _ (T116.setTop (mkF m 70 #[.val (.int p1), .val (.long q2), .second, .val (.long q3), .second, .val (.long q4), .second, .val (.long q5), .second, .val (.int (2 : Int32)), .val (.double (FP.l2d q2)), .second, .val (.double (FP.l2d q3)), .second, .val (.double (FP.l2d q4)), .second, .val (.double (FP.l2d q5)), .second, .val (.ref b111), .unset, .unset, .unset, .unset] [(.int (3 : Int32)), (.int (2 : Int32))]))
    refine Done.step (fun t k => XS.icmpYes X116.here hx rfl (pc0 := 70) (pc' := 79) rfl (hb hby at_70) rfl (flt (by decide)).2.2.2 (by decide) (by decide) k) ?_
    show Done p e below s _ _ _ (T116.setTop (mkF m 79 #[.val (.int p1), .val (.long q2), .second, .val (.long q3), .second, .val (.long q4), .second, .val (.long q5), .second, .val (.int (2 : Int32)), .val (.double (FP.l2d q2)), .second, .val (.double (FP.l2d q3)), .second, .val (.double (FP.l2d q4)), .second, .val (.double (FP.l2d q5)), .second, .val (.ref b111), .unset, .unset, .unset, .unset] []))
    refine Done.step (fun t k => XS.dconst0 X116.here hx rfl (hb hby at_79) rfl k) ?_
    show Done p e below s _ _ _ (T116.setTop (mkF m 80 #[.val (.int p1), .val (.long q2), .second, .val (.long q3), .second, .val (.long q4), .second, .val (.long q5), .second, .val (.int (2 : Int32)), .val (.double (FP.l2d q2)), .second, .val (.double (FP.l2d q3)), .second, .val (.double (FP.l2d q4)), .second, .val (.double (FP.l2d q5)), .second, .val (.ref b111), .unset, .unset, .unset, .unset] [(.double FP.dconst0)]))
    refine Done.step (fun t k => XS.dstore X116.here hx rfl (hb hby at_80) rfl (l' := #[.val (.int p1), .val (.long q2), .second, .val (.long q3), .second, .val (.long q4), .second, .val (.long q5), .second, .val (.int (2 : Int32)), .val (.double (FP.l2d q2)), .second, .val (.double (FP.l2d q3)), .second, .val (.double (FP.l2d q4)), .second, .val (.double (FP.l2d q5)), .second, .val (.ref b111), .val (.double FP.dconst0), .second, .unset, .unset]) rfl k) ?_
    show Done p e below s _ _ _ (T116.setTop (mkF m 82 #[.val (.int p1), .val (.long q2), .second, .val (.long q3), .second, .val (.long q4), .second, .val (.long q5), .second, .val (.int (2 : Int32)), .val (.double (FP.l2d q2)), .second, .val (.double (FP.l2d q3)), .second, .val (.double (FP.l2d q4)), .second, .val (.double (FP.l2d q5)), .second, .val (.ref b111), .val (.double FP.dconst0), .second, .unset, .unset] []))
    refine Done.step (fun t k => XS.iload X116.here hx rfl (hb hby at_82) rfl k) ?_
    show Done p e below s _ _ _ (T116.setTop (mkF m 84 #[.val (.int p1), .val (.long q2), .second, .val (.long q3), .second, .val (.long q4), .second, .val (.long q5), .second, .val (.int (2 : Int32)), .val (.double (FP.l2d q2)), .second, .val (.double (FP.l2d q3)), .second, .val (.double (FP.l2d q4)), .second, .val (.double (FP.l2d q5)), .second, .val (.ref b111), .val (.double FP.dconst0), .second, .unset, .unset] [(.int (2 : Int32))]))
    refine Done.step (fun t k => XS.ifNo X116.here hx rfl (hb hby at_84) rfl ((if0 _ _).trans (tlt (by decide)).2.2.2) k) ?_
    show Done p e below s _ _ _ (T116.setTop (mkF m 87 #[.val (.int p1), .val (.long q2), .second, .val (.long q3), .second, .val (.long q4), .second, .val (.long q5), .second, .val (.int (2 : Int32)), .val (.double (FP.l2d q2)), .second, .val (.double (FP.l2d q3)), .second, .val (.double (FP.l2d q4)), .second, .val (.double (FP.l2d q5)), .second, .val (.ref b111), .val (.double FP.dconst0), .second, .unset, .unset] []))
    refine Done.step (fun t k => XS.dload X116.here hx rfl (hb hby at_87) rfl k) ?_
    show Done p e below s _ _ _ (T116.setTop (mkF m 89 #[.val (.int p1), .val (.long q2), .second, .val (.long q3), .second, .val (.long q4), .second, .val (.long q5), .second, .val (.int (2 : Int32)), .val (.double (FP.l2d q2)), .second, .val (.double (FP.l2d q3)), .second, .val (.double (FP.l2d q4)), .second, .val (.double (FP.l2d q5)), .second, .val (.ref b111), .val (.double FP.dconst0), .second, .unset, .unset] [(.double FP.dconst0)]))
    refine Done.step (fun t k => XS.dload X116.here hx rfl (hb hby at_89) rfl k) ?_
    show Done p e below s _ _ _ (T116.setTop (mkF m 91 #[.val (.int p1), .val (.long q2), .second, .val (.long q3), .second, .val (.long q4), .second, .val (.long q5), .second, .val (.int (2 : Int32)), .val (.double (FP.l2d q2)), .second, .val (.double (FP.l2d q3)), .second, .val (.double (FP.l2d q4)), .second, .val (.double (FP.l2d q5)), .second, .val (.ref b111), .val (.double FP.dconst0), .second, .unset, .unset] [(.double (FP.l2d q2)), (.double FP.dconst0)]))
    refine Done.step (fun t k => XS.daddS X116.here hx rfl (hb hby at_91) rfl (Jvm.Free.Fl.dadd_out own_z (Jvm.Free.Fl.l2d_fin q2)) rfl k) ?_
    show Done p e below s _ _ _ (T116.setTop (mkF m 92 #[.val (.int p1), .val (.long q2), .second, .val (.long q3), .second, .val (.long q4), .second, .val (.long q5), .second, .val (.int (2 : Int32)), .val (.double (FP.l2d q2)), .second, .val (.double (FP.l2d q3)), .second, .val (.double (FP.l2d q4)), .second, .val (.double (FP.l2d q5)), .second, .val (.ref b111), .val (.double FP.dconst0), .second, .unset, .unset] [(.double (FP.dadd FP.dconst0 (FP.l2d q2)))]))
    refine Done.step (fun t k => XS.dstore X116.here hx rfl (hb hby at_92) rfl (l' := #[.val (.int p1), .val (.long q2), .second, .val (.long q3), .second, .val (.long q4), .second, .val (.long q5), .second, .val (.int (2 : Int32)), .val (.double (FP.l2d q2)), .second, .val (.double (FP.l2d q3)), .second, .val (.double (FP.l2d q4)), .second, .val (.double (FP.l2d q5)), .second, .val (.ref b111), .val (.double (FP.dadd FP.dconst0 (FP.l2d q2))), .second, .unset, .unset]) rfl k) ?_
    show Done p e below s _ _ _ (T116.setTop (mkF m 94 #[.val (.int p1), .val (.long q2), .second, .val (.long q3), .second, .val (.long q4), .second, .val (.long q5), .second, .val (.int (2 : Int32)), .val (.double (FP.l2d q2)), .second, .val (.double (FP.l2d q3)), .second, .val (.double (FP.l2d q4)), .second, .val (.double (FP.l2d q5)), .second, .val (.ref b111), .val (.double (FP.dadd FP.dconst0 (FP.l2d q2))), .second, .unset, .unset] []))
    refine Done.step (fun t k => XS.iload X116.here hx rfl (hb hby at_94) rfl k) ?_
    show Done p e below s _ _ _ (T116.setTop (mkF m 96 #[.val (.int p1), .val (.long q2), .second, .val (.long q3), .second, .val (.long q4), .second, .val (.long q5), .second, .val (.int (2 : Int32)), .val (.double (FP.l2d q2)), .second, .val (.double (FP.l2d q3)), .second, .val (.double (FP.l2d q4)), .second, .val (.double (FP.l2d q5)), .second, .val (.ref b111), .val (.double (FP.dadd FP.dconst0 (FP.l2d q2))), .second, .unset, .unset] [(.int (2 : Int32))]))
    refine Done.step (fun t k => XS.iconst X116.here hx rfl (hb hby at_96) k) ?_
    show Done p e below s _ _ _ (T116.setTop (mkF m 97 #[.val (.int p1), .val (.long q2), .second, .val (.long q3), .second, .val (.long q4), .second, .val (.long q5), .second, .val (.int (2 : Int32)), .val (.double (FP.l2d q2)), .second, .val (.double (FP.l2d q3)), .second, .val (.double (FP.l2d q4)), .second, .val (.double (FP.l2d q5)), .second, .val (.ref b111), .val (.double (FP.dadd FP.dconst0 (FP.l2d q2))), .second, .unset, .unset] [(.int (1 : Int32)), (.int (2 : Int32))]))
    refine Done.step (fun t k => XS.icmpNo X116.here hx rfl (hb hby at_97) rfl (tlt (by decide)).2.2.2 k) ?_
    show Done p e below s _ _ _ (T116.setTop (mkF m 100 #[.val (.int p1), .val (.long q2), .second, .val (.long q3), .second, .val (.long q4), .second, .val (.long q5), .second, .val (.int (2 : Int32)), .val (.double (FP.l2d q2)), .second, .val (.double (FP.l2d q3)), .second, .val (.double (FP.l2d q4)), .second, .val (.double (FP.l2d q5)), .second, .val (.ref b111), .val (.double (FP.dadd FP.dconst0 (FP.l2d q2))), .second, .unset, .unset] []))
    refine Done.step (fun t k => XS.dload X116.here hx rfl (hb hby at_100) rfl k) ?_
    show Done p e below s _ _ _ (T116.setTop (mkF m 102 #[.val (.int p1), .val (.long q2), .second, .val (.long q3), .second, .val (.long q4), .second, .val (.long q5), .second, .val (.int (2 : Int32)), .val (.double (FP.l2d q2)), .second, .val (.double (FP.l2d q3)), .second, .val (.double (FP.l2d q4)), .second, .val (.double (FP.l2d q5)), .second, .val (.ref b111), .val (.double (FP.dadd FP.dconst0 (FP.l2d q2))), .second, .unset, .unset] [(.double (FP.dadd FP.dconst0 (FP.l2d q2)))]))
    refine Done.step (fun t k => XS.dload X116.here hx rfl (hb hby at_102) rfl k) ?_
    show Done p e below s _ _ _ (T116.setTop (mkF m 104 #[.val (.int p1), .val (.long q2), .second, .val (.long q3), .second, .val (.long q4), .second, .val (.long q5), .second, .val (.int (2 : Int32)), .val (.double (FP.l2d q2)), .second, .val (.double (FP.l2d q3)), .second, .val (.double (FP.l2d q4)), .second, .val (.double (FP.l2d q5)), .second, .val (.ref b111), .val (.double (FP.dadd FP.dconst0 (FP.l2d q2))), .second, .unset, .unset] [(.double (FP.l2d q3)), (.double (FP.dadd FP.dconst0 (FP.l2d q2)))]))
    refine Done.step (fun t k => XS.daddS X116.here hx rfl (hb hby at_104) rfl (Jvm.Free.Fl.dadd_out (Jvm.Free.Fl.dadd_out own_z (Jvm.Free.Fl.l2d_fin q2)) (Jvm.Free.Fl.l2d_fin q3)) rfl k) ?_
    show Done p e below s _ _ _ (T116.setTop (mkF m 105 #[.val (.int p1), .val (.long q2), .second, .val (.long q3), .second, .val (.long q4), .second, .val (.long q5), .second, .val (.int (2 : Int32)), .val (.double (FP.l2d q2)), .second, .val (.double (FP.l2d q3)), .second, .val (.double (FP.l2d q4)), .second, .val (.double (FP.l2d q5)), .second, .val (.ref b111), .val (.double (FP.dadd FP.dconst0 (FP.l2d q2))), .second, .unset, .unset] [(.double (FP.dadd (FP.dadd FP.dconst0 (FP.l2d q2)) (FP.l2d q3)))]))
    refine Done.step (fun t k => XS.dstore X116.here hx rfl (hb hby at_105) rfl (l' := #[.val (.int p1), .val (.long q2), .second, .val (.long q3), .second, .val (.long q4), .second, .val (.long q5), .second, .val (.int (2 : Int32)), .val (.double (FP.l2d q2)), .second, .val (.double (FP.l2d q3)), .second, .val (.double (FP.l2d q4)), .second, .val (.double (FP.l2d q5)), .second, .val (.ref b111), .val (.double (FP.dadd (FP.dadd FP.dconst0 (FP.l2d q2)) (FP.l2d q3))), .second, .unset, .unset]) rfl k) ?_
    show Done p e below s _ _ _ (T116.setTop (mkF m 107 #[.val (.int p1), .val (.long q2), .second, .val (.long q3), .second, .val (.long q4), .second, .val (.long q5), .second, .val (.int (2 : Int32)), .val (.double (FP.l2d q2)), .second, .val (.double (FP.l2d q3)), .second, .val (.double (FP.l2d q4)), .second, .val (.double (FP.l2d q5)), .second, .val (.ref b111), .val (.double (FP.dadd (FP.dadd FP.dconst0 (FP.l2d q2)) (FP.l2d q3))), .second, .unset, .unset] []))
    refine Done.step (fun t k => XS.iload X116.here hx rfl (hb hby at_107) rfl k) ?_
    show Done p e below s _ _ _ (T116.setTop (mkF m 109 #[.val (.int p1), .val (.long q2), .second, .val (.long q3), .second, .val (.long q4), .second, .val (.long q5), .second, .val (.int (2 : Int32)), .val (.double (FP.l2d q2)), .second, .val (.double (FP.l2d q3)), .second, .val (.double (FP.l2d q4)), .second, .val (.double (FP.l2d q5)), .second, .val (.ref b111), .val (.double (FP.dadd (FP.dadd FP.dconst0 (FP.l2d q2)) (FP.l2d q3))), .second, .unset, .unset] [(.int (2 : Int32))]))
    refine Done.step (fun t k => XS.iconst X116.here hx rfl (hb hby at_109) k) ?_
    show Done p e below s _ _ _ (T116.setTop (mkF m 110 #[.val (.int p1), .val (.long q2), .second, .val (.long q3), .second, .val (.long q4), .second, .val (.long q5), .second, .val (.int (2 : Int32)), .val (.double (FP.l2d q2)), .second, .val (.double (FP.l2d q3)), .second, .val (.double (FP.l2d q4)), .second, .val (.double (FP.l2d q5)), .second, .val (.ref b111), .val (.double (FP.dadd (FP.dadd FP.dconst0 (FP.l2d q2)) (FP.l2d q3))), .second, .unset, .unset] [(.int (2 : Int32)), (.int (2 : Int32))]))
    refine Done.step (fun t k => XS.icmpYes X116.here hx rfl (pc0 := 110) (pc' := 120) rfl (hb hby at_110) rfl (flt (by decide)).2.2.2 (by decide) (by decide) k) ?_
    show Done p e below s _ _ _ (T116.setTop (mkF m 120 #[.val (.int p1), .val (.long q2), .second, .val (.long q3), .second, .val (.long q4), .second, .val (.long q5), .second, .val (.int (2 : Int32)), .val (.double (FP.l2d q2)), .second, .val (.double (FP.l2d q3)), .second, .val (.double (FP.l2d q4)), .second, .val (.double (FP.l2d q5)), .second, .val (.ref b111), .val (.double (FP.dadd (FP.dadd FP.dconst0 (FP.l2d q2)) (FP.l2d q3))), .second, .unset, .unset] []))
    refine Done.step (fun t k => XS.iload X116.here hx rfl (hb hby at_120) rfl k) ?_
    show Done p e below s _ _ _ (T116.setTop (mkF m 122 #[.val (.int p1), .val (.long q2), .second, .val (.long q3), .second, .val (.long q4), .second, .val (.long q5), .second, .val (.int (2 : Int32)), .val (.double (FP.l2d q2)), .second, .val (.double (FP.l2d q3)), .second, .val (.double (FP.l2d q4)), .second, .val (.double (FP.l2d q5)), .second, .val (.ref b111), .val (.double (FP.dadd (FP.dadd FP.dconst0 (FP.l2d q2)) (FP.l2d q3))), .second, .unset, .unset] [(.int (2 : Int32))]))
    refine Done.step (fun t k => XS.iconst X116.here hx rfl (hb hby at_122) k) ?_
    show Done p e below s _ _ _ (T116.setTop (mkF m 123 #[.val (.int p1), .val (.long q2), .second, .val (.long q3), .second, .val (.long q4), .second, .val (.long q5), .second, .val (.int (2 : Int32)), .val (.double (FP.l2d q2)), .second, .val (.double (FP.l2d q3)), .second, .val (.double (FP.l2d q4)), .second, .val (.double (FP.l2d q5)), .second, .val (.ref b111), .val (.double (FP.dadd (FP.dadd FP.dconst0 (FP.l2d q2)) (FP.l2d q3))), .second, .unset, .unset] [(.int (3 : Int32)), (.int (2 : Int32))]))
    refine Done.step (fun t k => XS.icmpYes X116.here hx rfl (pc0 := 123) (pc' := 133) rfl (hb hby at_123) rfl (flt (by decide)).2.2.2 (by decide) (by decide) k) ?_
    show Done p e below s _ _ _ (T116.setTop (mkF m 133 #[.val (.int p1), .val (.long q2), .second, .val (.long q3), .second, .val (.long q4), .second, .val (.long q5), .second, .val (.int (2 : Int32)), .val (.double (FP.l2d q2)), .second, .val (.double (FP.l2d q3)), .second, .val (.double (FP.l2d q4)), .second, .val (.double (FP.l2d q5)), .second, .val (.ref b111), .val (.double (FP.dadd (FP.dadd FP.dconst0 (FP.l2d q2)) (FP.l2d q3))), .second, .unset, .unset] []))
    refine Done.step (fun t k => XS.aload X116.here hx rfl (hb hby at_133) rfl rfl k) ?_
    show Done p e below s _ _ _ (T116.setTop (mkF m 135 #[.val (.int p1), .val (.long q2), .second, .val (.long q3), .second, .val (.long q4), .second, .val (.long q5), .second, .val (.int (2 : Int32)), .val (.double (FP.l2d q2)), .second, .val (.double (FP.l2d q3)), .second, .val (.double (FP.l2d q4)), .second, .val (.double (FP.l2d q5)), .second, .val (.ref b111), .val (.double (FP.dadd (FP.dadd FP.dconst0 (FP.l2d q2)) (FP.l2d q3))), .second, .unset, .unset] [(.ref b111)]))
    obtain ⟨v119, _, ⟨T119, L119, k119, n119⟩, -, X119, ⟨Lc119, hQ119, l119, y119, z119⟩, st119⟩ := Jvm.LawKit.callS X116 hx (y := (⟨"com/example/wardsum/wardsum/algorithm/TargetNodes", "sum", "([D)D"⟩ : MethodName)) hown (mvT hZ (hw _ (List.mem_of_getElem? (i := 2) rfl))) (mvT hZ (hw _ (List.mem_of_getElem? (i := 3) rfl))) (mvT hZ (hw _ (List.mem_of_getElem? (i := 4) rfl))) (mvT hZ (hw _ (List.mem_of_getElem? (i := 5) rfl))) (by decide) (backOf (W := 0) (rms2 l Z a0 hw [] b111 (FP.l2d q2) (FP.l2d q3) h116 n0 Z116 f118 (Jvm.Free.Fl.l2d_fin q2) (Jvm.Free.Fl.l2d_fin q3)) hZ (hw _ (List.mem_of_getElem? (i := 5) rfl)) (hw _ (List.mem_of_getElem? (i := 4) rfl)) (by decide) (by decide)) (g := (mkF m 135 #[.val (.int p1), .val (.long q2), .second, .val (.long q3), .second, .val (.long q4), .second, .val (.long q5), .second, .val (.int (2 : Int32)), .val (.double (FP.l2d q2)), .second, .val (.double (FP.l2d q3)), .second, .val (.double (FP.l2d q4)), .second, .val (.double (FP.l2d q5)), .second, .val (.ref b111), .val (.double (FP.dadd (FP.dadd FP.dconst0 (FP.l2d q2)) (FP.l2d q3))), .second, .unset, .unset] [(.ref b111)])) rfl (by rw [hml]; rfl) (argsL := [(.ref b111)]) (rest := []) (lenOf pd_0 rfl) rfl (by show 2 * 0 + _ ≤ _; exact Nat.le_of_eq rfl) (hb hby at_135) (fun _ _ => ⟨rfl, e116, (by decide : 1 + 0 ≤ _), (by decide : 2 + 0 ≤ _)⟩)
    dsimp only [Pt.U, Pt.locs, Pt.cells, Pt.slots] at X119 l119 y119 z119 st119 hQ119
    subst l119 y119 z119
    refine Done.step st119 ?_
    obtain ⟨rfl, N119q, e119⟩ := hQ119
    have N119 := Fr.app N116 N119q
    show Done p e below s _ _ _ (T119.setTop (mkF m 138 #[.val (.int p1), .val (.long q2), .second, .val (.long q3), .second, .val (.long q4), .second, .val (.long q5), .second, .val (.int (2 : Int32)), .val (.double (FP.l2d q2)), .second, .val (.double (FP.l2d q3)), .second, .val (.double (FP.l2d q4)), .second, .val (.double (FP.l2d q5)), .second, .val (.ref b111), .val (.double (FP.dadd (FP.dadd FP.dconst0 (FP.l2d q2)) (FP.l2d q3))), .second, .unset, .unset] [(.double (FP.dadd (FP.dadd FP.dconst0 (FP.l2d q2)) (FP.l2d q3)))]))
    refine Done.step (fun t k => XS.dstore X119.here hx rfl (hb hby at_138) rfl (l' := #[.val (.int p1), .val (.long q2), .second, .val (.long q3), .second, .val (.long q4), .second, .val (.long q5), .second, .val (.int (2 : Int32)), .val (.double (FP.l2d q2)), .second, .val (.double (FP.l2d q3)), .second, .val (.double (FP.l2d q4)), .second, .val (.double (FP.l2d q5)), .second, .val (.ref b111), .val (.double (FP.dadd (FP.dadd FP.dconst0 (FP.l2d q2)) (FP.l2d q3))), .second, .val (.double (FP.dadd (FP.dadd FP.dconst0 (FP.l2d q2)) (FP.l2d q3))), .second]) rfl k) ?_
    show Done p e below s _ _ _ (T119.setTop (mkF m 140 #[.val (.int p1), .val (.long q2), .second, .val (.long q3), .second, .val (.long q4), .second, .val (.long q5), .second, .val (.int (2 : Int32)), .val (.double (FP.l2d q2)), .second, .val (.double (FP.l2d q3)), .second, .val (.double (FP.l2d q4)), .second, .val (.double (FP.l2d q5)), .second, .val (.ref b111), .val (.double (FP.dadd (FP.dadd FP.dconst0 (FP.l2d q2)) (FP.l2d q3))), .second, .val (.double (FP.dadd (FP.dadd FP.dconst0 (FP.l2d q2)) (FP.l2d q3))), .second] []))
    refine Done.step (fun t k => XS.dload X119.here hx rfl (hb hby at_140) rfl k) ?_
    show Done p e below s _ _ _ (T119.setTop (mkF m 142 #[.val (.int p1), .val (.long q2), .second, .val (.long q3), .second, .val (.long q4), .second, .val (.long q5), .second, .val (.int (2 : Int32)), .val (.double (FP.l2d q2)), .second, .val (.double (FP.l2d q3)), .second, .val (.double (FP.l2d q4)), .second, .val (.double (FP.l2d q5)), .second, .val (.ref b111), .val (.double (FP.dadd (FP.dadd FP.dconst0 (FP.l2d q2)) (FP.l2d q3))), .second, .val (.double (FP.dadd (FP.dadd FP.dconst0 (FP.l2d q2)) (FP.l2d q3))), .second] [(.double (FP.dadd (FP.dadd FP.dconst0 (FP.l2d q2)) (FP.l2d q3)))]))
    refine Done.step (fun t k => XS.dload X119.here hx rfl (hb hby at_142) rfl k) ?_
    show Done p e below s _ _ _ (T119.setTop (mkF m 144 #[.val (.int p1), .val (.long q2), .second, .val (.long q3), .second, .val (.long q4), .second, .val (.long q5), .second, .val (.int (2 : Int32)), .val (.double (FP.l2d q2)), .second, .val (.double (FP.l2d q3)), .second, .val (.double (FP.l2d q4)), .second, .val (.double (FP.l2d q5)), .second, .val (.ref b111), .val (.double (FP.dadd (FP.dadd FP.dconst0 (FP.l2d q2)) (FP.l2d q3))), .second, .val (.double (FP.dadd (FP.dadd FP.dconst0 (FP.l2d q2)) (FP.l2d q3))), .second] [(.double (FP.dadd (FP.dadd FP.dconst0 (FP.l2d q2)) (FP.l2d q3))), (.double (FP.dadd (FP.dadd FP.dconst0 (FP.l2d q2)) (FP.l2d q3)))]))
    refine Done.step (fun t k => XS.dcmpS X119.here hx rfl (hb hby at_144) rfl (dcmpV_self (Jvm.Free.Fl.dadd_out (Jvm.Free.Fl.dadd_out own_z (Jvm.Free.Fl.l2d_fin q2)) (Jvm.Free.Fl.l2d_fin q3)) _) k) ?_
    show Done p e below s _ _ _ (T119.setTop (mkF m 145 #[.val (.int p1), .val (.long q2), .second, .val (.long q3), .second, .val (.long q4), .second, .val (.long q5), .second, .val (.int (2 : Int32)), .val (.double (FP.l2d q2)), .second, .val (.double (FP.l2d q3)), .second, .val (.double (FP.l2d q4)), .second, .val (.double (FP.l2d q5)), .second, .val (.ref b111), .val (.double (FP.dadd (FP.dadd FP.dconst0 (FP.l2d q2)) (FP.l2d q3))), .second, .val (.double (FP.dadd (FP.dadd FP.dconst0 (FP.l2d q2)) (FP.l2d q3))), .second] [(.int (0 : Int32))]))
    refine Done.step (fun t k => XS.ifNo X119.here hx rfl (hb hby at_145) rfl ((if0 _ _).trans (teq (by decide)).2) k) ?_
    show Done p e below s _ _ _ (T119.setTop (mkF m 148 #[.val (.int p1), .val (.long q2), .second, .val (.long q3), .second, .val (.long q4), .second, .val (.long q5), .second, .val (.int (2 : Int32)), .val (.double (FP.l2d q2)), .second, .val (.double (FP.l2d q3)), .second, .val (.double (FP.l2d q4)), .second, .val (.double (FP.l2d q5)), .second, .val (.ref b111), .val (.double (FP.dadd (FP.dadd FP.dconst0 (FP.l2d q2)) (FP.l2d q3))), .second, .val (.double (FP.dadd (FP.dadd FP.dconst0 (FP.l2d q2)) (FP.l2d q3))), .second] []))
    refine Done.step (fun t k => XS.iconst X119.here hx rfl (hb hby at_148) k) ?_
    show Done p e below s _ _ _ (T119.setTop (mkF m 149 #[.val (.int p1), .val (.long q2), .second, .val (.long q3), .second, .val (.long q4), .second, .val (.long q5), .second, .val (.int (2 : Int32)), .val (.double (FP.l2d q2)), .second, .val (.double (FP.l2d q3)), .second, .val (.double (FP.l2d q4)), .second, .val (.double (FP.l2d q5)), .second, .val (.ref b111), .val (.double (FP.dadd (FP.dadd FP.dconst0 (FP.l2d q2)) (FP.l2d q3))), .second, .val (.double (FP.dadd (FP.dadd FP.dconst0 (FP.l2d q2)) (FP.l2d q3))), .second] [(.int (1 : Int32))]))
    refine Done.step (fun t k => XS.goto X119.here hx rfl (pc0 := 149) (pc' := 153) rfl (hb hby at_149) (by decide) (by decide) k) ?_
    show Done p e below s _ _ _ (T119.setTop (mkF m 153 #[.val (.int p1), .val (.long q2), .second, .val (.long q3), .second, .val (.long q4), .second, .val (.long q5), .second, .val (.int (2 : Int32)), .val (.double (FP.l2d q2)), .second, .val (.double (FP.l2d q3)), .second, .val (.double (FP.l2d q4)), .second, .val (.double (FP.l2d q5)), .second, .val (.ref b111), .val (.double (FP.dadd (FP.dadd FP.dconst0 (FP.l2d q2)) (FP.l2d q3))), .second, .val (.double (FP.dadd (FP.dadd FP.dconst0 (FP.l2d q2)) (FP.l2d q3))), .second] [(.int (1 : Int32))]))
    exact Done.narr X119 hx hlk hret (by simp) (hb hby at_153) (by decide) (by decide) ⟨rfl, N119⟩
  · subst hk
    show Done p e below s _ _ _ (s₁.setTop (mkF m 26 #[.val (.int p1), .val (.long q2), .second, .val (.long q3), .second, .val (.long q4), .second, .val (.long q5), .second, .val (.int (3 : Int32)), .val (.double (FP.l2d q2)), .second, .val (.double (FP.l2d q3)), .second, .val (.double (FP.l2d q4)), .second, .val (.double (FP.l2d q5)), .second, .unset, .unset, .unset, .unset, .unset] []))
    refine Done.step (fun t k => XS.iload X0.here hx rfl (hb hby at_26) rfl k) ?_
    show Done p e below s _ _ _ (s₁.setTop (mkF m 28 #[.val (.int p1), .val (.long q2), .second, .val (.long q3), .second, .val (.long q4), .second, .val (.long q5), .second, .val (.int (3 : Int32)), .val (.double (FP.l2d q2)), .second, .val (.double (FP.l2d q3)), .second, .val (.double (FP.l2d q4)), .second, .val (.double (FP.l2d q5)), .second, .unset, .unset, .unset, .unset, .unset] [(.int (3 : Int32))]))
    obtain ⟨T120, h120, k120, X120, e120, E120, A120, B120, st120⟩ := newPE X0 hx hZ (hw _ (List.mem_of_getElem? (i := 1) rfl)) e0 (g := (mkF m 28 #[.val (.int p1), .val (.long q2), .second, .val (.long q3), .second, .val (.long q4), .second, .val (.long q5), .second, .val (.int (3 : Int32)), .val (.double (FP.l2d q2)), .second, .val (.double (FP.l2d q3)), .second, .val (.double (FP.l2d q4)), .second, .val (.double (FP.l2d q5)), .second, .unset, .unset, .unset, .unset, .unset] [(.int (3 : Int32))])) rfl (hb hby at_28) rfl (by decide) (cap := 3) (by decide) (by decide) (by decide) (by decide) (ad := "[D") (by decide)
    obtain ⟨b120, gq120⟩ : ∃ z, z = h0.size := ⟨_, rfl⟩
    rw [← gq120] at A120 B120 st120
    have g_b120 : n0 ≤ b120 := Nat.le_trans Z0 (Nat.le_of_eq gq120.symm)
    have Z120 : n0 ≤ h120.size := Nat.le_trans Z0 E120.1
    have f121 : Ax Z h120 b120 .double [(.double (0 : UInt64)), (.double (0 : UInt64)), (.double (0 : UInt64))] := Ax.new (ty := .double) (i := 3) A120 (by decide)
    refine Done.step st120 ?_
    show Done p e below s _ _ _ (T120.setTop (mkF m 30 #[.val (.int p1), .val (.long q2), .second, .val (.long q3), .second, .val (.long q4), .second, .val (.long q5), .second, .val (.int (3 : Int32)), .val (.double (FP.l2d q2)), .second, .val (.double (FP.l2d q3)), .second, .val (.double (FP.l2d q4)), .second, .val (.double (FP.l2d q5)), .second, .unset, .unset, .unset, .unset, .unset] [(.ref b120)]))
    refine Done.step (fun t k => XS.astore X120.here hx rfl (hb hby at_30) rfl rfl (l' := #[.val (.int p1), .val (.long q2), .second, .val (.long q3), .second, .val (.long q4), .second, .val (.long q5), .second, .val (.int (3 : Int32)), .val (.double (FP.l2d q2)), .second, .val (.double (FP.l2d q3)), .second, .val (.double (FP.l2d q4)), .second, .val (.double (FP.l2d q5)), .second, .val (.ref b120), .unset, .unset, .unset, .unset]) rfl k) ?_
    show Done p e below s _ _ _ (T120.setTop (mkF m 32 #[.val (.int p1), .val (.long q2), .second, .val (.long q3), .second, .val (.long q4), .second, .val (.long q5), .second, .val (.int (3 : Int32)), .val (.double (FP.l2d q2)), .second, .val (.double (FP.l2d q3)), .second, .val (.double (FP.l2d q4)), .second, .val (.double (FP.l2d q5)), .second, .val (.ref b120), .unset, .unset, .unset, .unset] []))
    refine Done.step (fun t k => XS.iload X120.here hx rfl (hb hby at_32) rfl k) ?_
    show Done p e below s _ _ _ (T120.setTop (mkF m 34 #[.val (.int p1), .val (.long q2), .second, .val (.long q3), .second, .val (.long q4), .second, .val (.long q5), .second, .val (.int (3 : Int32)), .val (.double (FP.l2d q2)), .second, .val (.double (FP.l2d q3)), .second, .val (.double (FP.l2d q4)), .second, .val (.double (FP.l2d q5)), .second, .val (.ref b120), .unset, .unset, .unset, .unset] [(.int (3 : Int32))]))
    refine Done.step (fun t k => XS.ifNo X120.here hx rfl (hb hby at_34) rfl ((if0 _ _).trans (tlt (by decide)).2.2.2) k) ?_
    show Done p e below s _ _ _ (T120.setTop (mkF m 37 #[.val (.int p1), .val (.long q2), .second, .val (.long q3), .second, .val (.long q4), .second, .val (.long q5), .second, .val (.int (3 : Int32)), .val (.double (FP.l2d q2)), .second, .val (.double (FP.l2d q3)), .second, .val (.double (FP.l2d q4)), .second, .val (.double (FP.l2d q5)), .second, .val (.ref b120), .unset, .unset, .unset, .unset] []))
    refine Done.step (fun t k => XS.aload X120.here hx rfl (hb hby at_37) rfl rfl k) ?_
    show Done p e below s _ _ _ (T120.setTop (mkF m 39 #[.val (.int p1), .val (.long q2), .second, .val (.long q3), .second, .val (.long q4), .second, .val (.long q5), .second, .val (.int (3 : Int32)), .val (.double (FP.l2d q2)), .second, .val (.double (FP.l2d q3)), .second, .val (.double (FP.l2d q4)), .second, .val (.double (FP.l2d q5)), .second, .val (.ref b120), .unset, .unset, .unset, .unset] [(.ref b120)]))
    refine Done.step (fun t k => XS.iconst X120.here hx rfl (hb hby at_39) k) ?_
    show Done p e below s _ _ _ (T120.setTop (mkF m 40 #[.val (.int p1), .val (.long q2), .second, .val (.long q3), .second, .val (.long q4), .second, .val (.long q5), .second, .val (.int (3 : Int32)), .val (.double (FP.l2d q2)), .second, .val (.double (FP.l2d q3)), .second, .val (.double (FP.l2d q4)), .second, .val (.double (FP.l2d q5)), .second, .val (.ref b120), .unset, .unset, .unset, .unset] [(.int (0 : Int32)), (.ref b120)]))
    refine Done.step (fun t k => XS.dload X120.here hx rfl (hb hby at_40) rfl k) ?_
    show Done p e below s _ _ _ (T120.setTop (mkF m 42 #[.val (.int p1), .val (.long q2), .second, .val (.long q3), .second, .val (.long q4), .second, .val (.long q5), .second, .val (.int (3 : Int32)), .val (.double (FP.l2d q2)), .second, .val (.double (FP.l2d q3)), .second, .val (.double (FP.l2d q4)), .second, .val (.double (FP.l2d q5)), .second, .val (.ref b120), .unset, .unset, .unset, .unset] [(.double (FP.l2d q2)), (.int (0 : Int32)), (.ref b120)]))
    obtain ⟨T122, h122, X122, e122, W122, A122, st122⟩ := stoD X120 hx hZ e120 f121 (j := (0 : Int32)) (by decide) (i := 0) (by decide) (Nat.le_of_ble_eq_true rfl) (g := (mkF m 42 #[.val (.int p1), .val (.long q2), .second, .val (.long q3), .second, .val (.long q4), .second, .val (.long q5), .second, .val (.int (3 : Int32)), .val (.double (FP.l2d q2)), .second, .val (.double (FP.l2d q3)), .second, .val (.double (FP.l2d q4)), .second, .val (.double (FP.l2d q5)), .second, .val (.ref b120), .unset, .unset, .unset, .unset] [(.double (FP.l2d q2)), (.int (0 : Int32)), (.ref b120)])) rfl rfl (hb hby at_42)
    have f123 : Exa Z h122 b120 "[D" := B120.wr W122
    have f124 : Ax Z h122 b120 .double [(.double (FP.l2d q2)), (.double (0 : UInt64)), (.double (0 : UInt64))] := A122
    have Z122 : n0 ≤ h122.size := Nat.le_trans Z120 (Keep.of_wr W122).1
    have N122 := Fr.snoc X122 N0 g_b120
    refine Done.step st122 ?_
    show Done p e below s _ _ _ (T122.setTop (mkF m 43 #[.val (.int p1), .val (.long q2), .second, .val (.long q3), .second, .val (.long q4), .second, .val (.long q5), .second, .val (.int (3 : Int32)), .val (.double (FP.l2d q2)), .second, .val (.double (FP.l2d q3)), .second, .val (.double (FP.l2d q4)), .second, .val (.double (FP.l2d q5)), .second, .val (.ref b120), .unset, .unset, .unset, .unset] []))
    refine Done.step (fun t k => XS.iload X122.here hx rfl (hb hby at_43) rfl k) ?_
    show Done p e below s _ _ _ (T122.setTop (mkF m 45 #[.val (.int p1), .val (.long q2), .second, .val (.long q3), .second, .val (.long q4), .second, .val (.long q5), .second, .val (.int (3 : Int32)), .val (.double (FP.l2d q2)), .second, .val (.double (FP.l2d q3)), .second, .val (.double (FP.l2d q4)), .second, .val (.double (FP.l2d q5)), .second, .val (.ref b120), .unset, .unset, .unset, .unset] [(.int (3 : Int32))]))
    refine Done.step (fun t k => XS.iconst X122.here hx rfl (hb hby at_45) k) ?_
    show Done p e below s _ _ _ (T122.setTop (mkF m 46 #[.val (.int p1), .val (.long q2), .second, .val (.long q3), .second, .val (.long q4), .second, .val (.long q5), .second, .val (.int (3 : Int32)), .val (.double (FP.l2d q2)), .second, .val (.double (FP.l2d q3)), .second, .val (.double (FP.l2d q4)), .second, .val (.double (FP.l2d q5)), .second, .val (.ref b120), .unset, .unset, .unset, .unset] [(.int (1 : Int32)), (.int (3 : Int32))]))
    refine Done.step (fun t k => XS.icmpNo X122.here hx rfl (hb hby at_46) rfl (tlt (by decide)).2.2.2 k) ?_
    show Done p e below s _ _ _ (T122.setTop (mkF m 49 #[.val (.int p1), .val (.long q2), .second, .val (.long q3), .second, .val (.long q4), .second, .val (.long q5), .second, .val (.int (3 : Int32)), .val (.double (FP.l2d q2)), .second, .val (.double (FP.l2d q3)), .second, .val (.double (FP.l2d q4)), .second, .val (.double (FP.l2d q5)), .second, .val (.ref b120), .unset, .unset, .unset, .unset] []))
    refine Done.step (fun t k => XS.aload X122.here hx rfl (hb hby at_49) rfl rfl k) ?_
    show Done p e below s _ _ _ (T122.setTop (mkF m 51 #[.val (.int p1), .val (.long q2), .second, .val (.long q3), .second, .val (.long q4), .second, .val (.long q5), .second, .val (.int (3 : Int32)), .val (.double (FP.l2d q2)), .second, .val (.double (FP.l2d q3)), .second, .val (.double (FP.l2d q4)), .second, .val (.double (FP.l2d q5)), .second, .val (.ref b120), .unset, .unset, .unset, .unset] [(.ref b120)]))
    refine Done.step (fun t k => XS.iconst X122.here hx rfl (hb hby at_51) k) ?_
    show Done p e below s _ _ _ (T122.setTop (mkF m 52 #[.val (.int p1), .val (.long q2), .second, .val (.long q3), .second, .val (.long q4), .second, .val (.long q5), .second, .val (.int (3 : Int32)), .val (.double (FP.l2d q2)), .second, .val (.double (FP.l2d q3)), .second, .val (.double (FP.l2d q4)), .second, .val (.double (FP.l2d q5)), .second, .val (.ref b120), .unset, .unset, .unset, .unset] [(.int (1 : Int32)), (.ref b120)]))
    refine Done.step (fun t k => XS.dload X122.here hx rfl (hb hby at_52) rfl k) ?_
    show Done p e below s _ _ _ (T122.setTop (mkF m 54 #[.val (.int p1), .val (.long q2), .second, .val (.long q3), .second, .val (.long q4), .second, .val (.long q5), .second, .val (.int (3 : Int32)), .val (.double (FP.l2d q2)), .second, .val (.double (FP.l2d q3)), .second, .val (.double (FP.l2d q4)), .second, .val (.double (FP.l2d q5)), .second, .val (.ref b120), .unset, .unset, .unset, .unset] [(.double (FP.l2d q3)), (.int (1 : Int32)), (.ref b120)]))
    obtain ⟨T125, h125, X125, e125, W125, A125, st125⟩ := stoD X122 hx hZ e122 f124 (j := (1 : Int32)) (by decide) (i := 1) (by decide) (Nat.le_of_ble_eq_true rfl) (g := (mkF m 54 #[.val (.int p1), .val (.long q2), .second, .val (.long q3), .second, .val (.long q4), .second, .val (.long q5), .second, .val (.int (3 : Int32)), .val (.double (FP.l2d q2)), .second, .val (.double (FP.l2d q3)), .second, .val (.double (FP.l2d q4)), .second, .val (.double (FP.l2d q5)), .second, .val (.ref b120), .unset, .unset, .unset, .unset] [(.double (FP.l2d q3)), (.int (1 : Int32)), (.ref b120)])) rfl rfl (hb hby at_54)
    have f126 : Exa Z h125 b120 "[D" := f123.wr W125
    have f127 : Ax Z h125 b120 .double [(.double (FP.l2d q2)), (.double (FP.l2d q3)), (.double (0 : UInt64))] := A125
    have Z125 : n0 ≤ h125.size := Nat.le_trans Z122 (Keep.of_wr W125).1
    have N125 := Fr.snoc X125 N122 g_b120
    refine Done.step st125 ?_
    show Done p e below s _ _ _ (T125.setTop (mkF m 55 #[.val (.int p1), .val (.long q2), .second, .val (.long q3), .second, .val (.long q4), .second, .val (.long q5), .second, .val (.int (3 : Int32)), .val (.double (FP.l2d q2)), .second, .val (.double (FP.l2d q3)), .second, .val (.double (FP.l2d q4)), .second, .val (.double (FP.l2d q5)), .second, .val (.ref b120), .unset, .unset, .unset, .unset] []))
    refine Done.step (fun t k => XS.iload X125.here hx rfl (hb hby at_55) rfl k) ?_
    show Done p e below s _ _ _ (T125.setTop (mkF m 57 #[.val (.int p1), .val (.long q2), .second, .val (.long q3), .second, .val (.long q4), .second, .val (.long q5), .second, .val (.int (3 : Int32)), .val (.double (FP.l2d q2)), .second, .val (.double (FP.l2d q3)), .second, .val (.double (FP.l2d q4)), .second, .val (.double (FP.l2d q5)), .second, .val (.ref b120), .unset, .unset, .unset, .unset] [(.int (3 : Int32))]))
    refine Done.step (fun t k => XS.iconst X125.here hx rfl (hb hby at_57) k) ?_
    show Done p e below s _ _ _ (T125.setTop (mkF m 58 #[.val (.int p1), .val (.long q2), .second, .val (.long q3), .second, .val (.long q4), .second, .val (.long q5), .second, .val (.int (3 : Int32)), .val (.double (FP.l2d q2)), .second, .val (.double (FP.l2d q3)), .second, .val (.double (FP.l2d q4)), .second, .val (.double (FP.l2d q5)), .second, .val (.ref b120), .unset, .unset, .unset, .unset] [(.int (2 : Int32)), (.int (3 : Int32))]))
    refine Done.step (fun t k => XS.icmpNo X125.here hx rfl (hb hby at_58) rfl (tlt (by decide)).2.2.2 k) ?_
    show Done p e below s _ _ _ (T125.setTop (mkF m 61 #[.val (.int p1), .val (.long q2), .second, .val (.long q3), .second, .val (.long q4), .second, .val (.long q5), .second, .val (.int (3 : Int32)), .val (.double (FP.l2d q2)), .second, .val (.double (FP.l2d q3)), .second, .val (.double (FP.l2d q4)), .second, .val (.double (FP.l2d q5)), .second, .val (.ref b120), .unset, .unset, .unset, .unset] []))
    refine Done.step (fun t k => XS.aload X125.here hx rfl (hb hby at_61) rfl rfl k) ?_
    show Done p e below s _ _ _ (T125.setTop (mkF m 63 #[.val (.int p1), .val (.long q2), .second, .val (.long q3), .second, .val (.long q4), .second, .val (.long q5), .second, .val (.int (3 : Int32)), .val (.double (FP.l2d q2)), .second, .val (.double (FP.l2d q3)), .second, .val (.double (FP.l2d q4)), .second, .val (.double (FP.l2d q5)), .second, .val (.ref b120), .unset, .unset, .unset, .unset] [(.ref b120)]))
    refine Done.step (fun t k => XS.iconst X125.here hx rfl (hb hby at_63) k) ?_
    show Done p e below s _ _ _ (T125.setTop (mkF m 64 #[.val (.int p1), .val (.long q2), .second, .val (.long q3), .second, .val (.long q4), .second, .val (.long q5), .second, .val (.int (3 : Int32)), .val (.double (FP.l2d q2)), .second, .val (.double (FP.l2d q3)), .second, .val (.double (FP.l2d q4)), .second, .val (.double (FP.l2d q5)), .second, .val (.ref b120), .unset, .unset, .unset, .unset] [(.int (2 : Int32)), (.ref b120)]))
    refine Done.step (fun t k => XS.dload X125.here hx rfl (hb hby at_64) rfl k) ?_
    show Done p e below s _ _ _ (T125.setTop (mkF m 66 #[.val (.int p1), .val (.long q2), .second, .val (.long q3), .second, .val (.long q4), .second, .val (.long q5), .second, .val (.int (3 : Int32)), .val (.double (FP.l2d q2)), .second, .val (.double (FP.l2d q3)), .second, .val (.double (FP.l2d q4)), .second, .val (.double (FP.l2d q5)), .second, .val (.ref b120), .unset, .unset, .unset, .unset] [(.double (FP.l2d q4)), (.int (2 : Int32)), (.ref b120)]))
    obtain ⟨T128, h128, X128, e128, W128, A128, st128⟩ := stoD X125 hx hZ e125 f127 (j := (2 : Int32)) (by decide) (i := 2) (by decide) (Nat.le_of_ble_eq_true rfl) (g := (mkF m 66 #[.val (.int p1), .val (.long q2), .second, .val (.long q3), .second, .val (.long q4), .second, .val (.long q5), .second, .val (.int (3 : Int32)), .val (.double (FP.l2d q2)), .second, .val (.double (FP.l2d q3)), .second, .val (.double (FP.l2d q4)), .second, .val (.double (FP.l2d q5)), .second, .val (.ref b120), .unset, .unset, .unset, .unset] [(.double (FP.l2d q4)), (.int (2 : Int32)), (.ref b120)])) rfl rfl (hb hby at_66)
    have f129 : Exa Z h128 b120 "[D" := f126.wr W128
    have f130 : Ax Z h128 b120 .double [(.double (FP.l2d q2)), (.double (FP.l2d q3)), (.double (FP.l2d q4))] := A128
    have Z128 : n0 ≤ h128.size := Nat.le_trans Z125 (Keep.of_wr W128).1
    have N128 := Fr.snoc X128 N125 g_b120
    refine Done.step st128 ?_
    show Done p e below s _ _ _ (T128.setTop (mkF m 67 #[.val (.int p1), .val (.long q2), .second, .val (.long q3), .second, .val (.long q4), .second, .val (.long q5), .second, .val (.int (3 : Int32)), .val (.double (FP.l2d q2)), .second, .val (.double (FP.l2d q3)), .second, .val (.double (FP.l2d q4)), .second, .val (.double (FP.l2d q5)), .second, .val (.ref b120), .unset, .unset, .unset, .unset] []))
    refine Done.step (fun t k => XS.iload X128.here hx rfl (hb hby at_67) rfl k) ?_
    show Done p e below s _ _ _ (T128.setTop (mkF m 69 #[.val (.int p1), .val (.long q2), .second, .val (.long q3), .second, .val (.long q4), .second, .val (.long q5), .second, .val (.int (3 : Int32)), .val (.double (FP.l2d q2)), .second, .val (.double (FP.l2d q3)), .second, .val (.double (FP.l2d q4)), .second, .val (.double (FP.l2d q5)), .second, .val (.ref b120), .unset, .unset, .unset, .unset] [(.int (3 : Int32))]))
    refine Done.step (fun t k => XS.iconst X128.here hx rfl (hb hby at_69) k) ?_
    show Done p e below s _ _ _ (T128.setTop (mkF m 70 #[.val (.int p1), .val (.long q2), .second, .val (.long q3), .second, .val (.long q4), .second, .val (.long q5), .second, .val (.int (3 : Int32)), .val (.double (FP.l2d q2)), .second, .val (.double (FP.l2d q3)), .second, .val (.double (FP.l2d q4)), .second, .val (.double (FP.l2d q5)), .second, .val (.ref b120), .unset, .unset, .unset, .unset] [(.int (3 : Int32)), (.int (3 : Int32))]))
    refine Done.step (fun t k => XS.icmpYes X128.here hx rfl (pc0 := 70) (pc' := 79) rfl (hb hby at_70) rfl (flt (by decide)).2.2.2 (by decide) (by decide) k) ?_
    show Done p e below s _ _ _ (T128.setTop (mkF m 79 #[.val (.int p1), .val (.long q2), .second, .val (.long q3), .second, .val (.long q4), .second, .val (.long q5), .second, .val (.int (3 : Int32)), .val (.double (FP.l2d q2)), .second, .val (.double (FP.l2d q3)), .second, .val (.double (FP.l2d q4)), .second, .val (.double (FP.l2d q5)), .second, .val (.ref b120), .unset, .unset, .unset, .unset] []))
    refine Done.step (fun t k => XS.dconst0 X128.here hx rfl (hb hby at_79) rfl k) ?_
    show Done p e below s _ _ _ (T128.setTop (mkF m 80 #[.val (.int p1), .val (.long q2), .second, .val (.long q3), .second, .val (.long q4), .second, .val (.long q5), .second, .val (.int (3 : Int32)), .val (.double (FP.l2d q2)), .second, .val (.double (FP.l2d q3)), .second, .val (.double (FP.l2d q4)), .second, .val (.double (FP.l2d q5)), .second, .val (.ref b120), .unset, .unset, .unset, .unset] [(.double FP.dconst0)]))
    refine Done.step (fun t k => XS.dstore X128.here hx rfl (hb hby at_80) rfl (l' := #[.val (.int p1), .val (.long q2), .second, .val (.long q3), .second, .val (.long q4), .second, .val (.long q5), .second, .val (.int (3 : Int32)), .val (.double (FP.l2d q2)), .second, .val (.double (FP.l2d q3)), .second, .val (.double (FP.l2d q4)), .second, .val (.double (FP.l2d q5)), .second, .val (.ref b120), .val (.double FP.dconst0), .second, .unset, .unset]) rfl k) ?_
    show Done p e below s _ _ _ (T128.setTop (mkF m 82 #[.val (.int p1), .val (.long q2), .second, .val (.long q3), .second, .val (.long q4), .second, .val (.long q5), .second, .val (.int (3 : Int32)), .val (.double (FP.l2d q2)), .second, .val (.double (FP.l2d q3)), .second, .val (.double (FP.l2d q4)), .second, .val (.double (FP.l2d q5)), .second, .val (.ref b120), .val (.double FP.dconst0), .second, .unset, .unset] []))
    refine Done.step (fun t k => XS.iload X128.here hx rfl (hb hby at_82) rfl k) ?_
    show Done p e below s _ _ _ (T128.setTop (mkF m 84 #[.val (.int p1), .val (.long q2), .second, .val (.long q3), .second, .val (.long q4), .second, .val (.long q5), .second, .val (.int (3 : Int32)), .val (.double (FP.l2d q2)), .second, .val (.double (FP.l2d q3)), .second, .val (.double (FP.l2d q4)), .second, .val (.double (FP.l2d q5)), .second, .val (.ref b120), .val (.double FP.dconst0), .second, .unset, .unset] [(.int (3 : Int32))]))
    refine Done.step (fun t k => XS.ifNo X128.here hx rfl (hb hby at_84) rfl ((if0 _ _).trans (tlt (by decide)).2.2.2) k) ?_
    show Done p e below s _ _ _ (T128.setTop (mkF m 87 #[.val (.int p1), .val (.long q2), .second, .val (.long q3), .second, .val (.long q4), .second, .val (.long q5), .second, .val (.int (3 : Int32)), .val (.double (FP.l2d q2)), .second, .val (.double (FP.l2d q3)), .second, .val (.double (FP.l2d q4)), .second, .val (.double (FP.l2d q5)), .second, .val (.ref b120), .val (.double FP.dconst0), .second, .unset, .unset] []))
    refine Done.step (fun t k => XS.dload X128.here hx rfl (hb hby at_87) rfl k) ?_
    show Done p e below s _ _ _ (T128.setTop (mkF m 89 #[.val (.int p1), .val (.long q2), .second, .val (.long q3), .second, .val (.long q4), .second, .val (.long q5), .second, .val (.int (3 : Int32)), .val (.double (FP.l2d q2)), .second, .val (.double (FP.l2d q3)), .second, .val (.double (FP.l2d q4)), .second, .val (.double (FP.l2d q5)), .second, .val (.ref b120), .val (.double FP.dconst0), .second, .unset, .unset] [(.double FP.dconst0)]))
    refine Done.step (fun t k => XS.dload X128.here hx rfl (hb hby at_89) rfl k) ?_
    show Done p e below s _ _ _ (T128.setTop (mkF m 91 #[.val (.int p1), .val (.long q2), .second, .val (.long q3), .second, .val (.long q4), .second, .val (.long q5), .second, .val (.int (3 : Int32)), .val (.double (FP.l2d q2)), .second, .val (.double (FP.l2d q3)), .second, .val (.double (FP.l2d q4)), .second, .val (.double (FP.l2d q5)), .second, .val (.ref b120), .val (.double FP.dconst0), .second, .unset, .unset] [(.double (FP.l2d q2)), (.double FP.dconst0)]))
    refine Done.step (fun t k => XS.daddS X128.here hx rfl (hb hby at_91) rfl (Jvm.Free.Fl.dadd_out own_z (Jvm.Free.Fl.l2d_fin q2)) rfl k) ?_
    show Done p e below s _ _ _ (T128.setTop (mkF m 92 #[.val (.int p1), .val (.long q2), .second, .val (.long q3), .second, .val (.long q4), .second, .val (.long q5), .second, .val (.int (3 : Int32)), .val (.double (FP.l2d q2)), .second, .val (.double (FP.l2d q3)), .second, .val (.double (FP.l2d q4)), .second, .val (.double (FP.l2d q5)), .second, .val (.ref b120), .val (.double FP.dconst0), .second, .unset, .unset] [(.double (FP.dadd FP.dconst0 (FP.l2d q2)))]))
    refine Done.step (fun t k => XS.dstore X128.here hx rfl (hb hby at_92) rfl (l' := #[.val (.int p1), .val (.long q2), .second, .val (.long q3), .second, .val (.long q4), .second, .val (.long q5), .second, .val (.int (3 : Int32)), .val (.double (FP.l2d q2)), .second, .val (.double (FP.l2d q3)), .second, .val (.double (FP.l2d q4)), .second, .val (.double (FP.l2d q5)), .second, .val (.ref b120), .val (.double (FP.dadd FP.dconst0 (FP.l2d q2))), .second, .unset, .unset]) rfl k) ?_
    show Done p e below s _ _ _ (T128.setTop (mkF m 94 #[.val (.int p1), .val (.long q2), .second, .val (.long q3), .second, .val (.long q4), .second, .val (.long q5), .second, .val (.int (3 : Int32)), .val (.double (FP.l2d q2)), .second, .val (.double (FP.l2d q3)), .second, .val (.double (FP.l2d q4)), .second, .val (.double (FP.l2d q5)), .second, .val (.ref b120), .val (.double (FP.dadd FP.dconst0 (FP.l2d q2))), .second, .unset, .unset] []))
    refine Done.step (fun t k => XS.iload X128.here hx rfl (hb hby at_94) rfl k) ?_
    show Done p e below s _ _ _ (T128.setTop (mkF m 96 #[.val (.int p1), .val (.long q2), .second, .val (.long q3), .second, .val (.long q4), .second, .val (.long q5), .second, .val (.int (3 : Int32)), .val (.double (FP.l2d q2)), .second, .val (.double (FP.l2d q3)), .second, .val (.double (FP.l2d q4)), .second, .val (.double (FP.l2d q5)), .second, .val (.ref b120), .val (.double (FP.dadd FP.dconst0 (FP.l2d q2))), .second, .unset, .unset] [(.int (3 : Int32))]))
    refine Done.step (fun t k => XS.iconst X128.here hx rfl (hb hby at_96) k) ?_
    show Done p e below s _ _ _ (T128.setTop (mkF m 97 #[.val (.int p1), .val (.long q2), .second, .val (.long q3), .second, .val (.long q4), .second, .val (.long q5), .second, .val (.int (3 : Int32)), .val (.double (FP.l2d q2)), .second, .val (.double (FP.l2d q3)), .second, .val (.double (FP.l2d q4)), .second, .val (.double (FP.l2d q5)), .second, .val (.ref b120), .val (.double (FP.dadd FP.dconst0 (FP.l2d q2))), .second, .unset, .unset] [(.int (1 : Int32)), (.int (3 : Int32))]))
    refine Done.step (fun t k => XS.icmpNo X128.here hx rfl (hb hby at_97) rfl (tlt (by decide)).2.2.2 k) ?_
    show Done p e below s _ _ _ (T128.setTop (mkF m 100 #[.val (.int p1), .val (.long q2), .second, .val (.long q3), .second, .val (.long q4), .second, .val (.long q5), .second, .val (.int (3 : Int32)), .val (.double (FP.l2d q2)), .second, .val (.double (FP.l2d q3)), .second, .val (.double (FP.l2d q4)), .second, .val (.double (FP.l2d q5)), .second, .val (.ref b120), .val (.double (FP.dadd FP.dconst0 (FP.l2d q2))), .second, .unset, .unset] []))
    refine Done.step (fun t k => XS.dload X128.here hx rfl (hb hby at_100) rfl k) ?_
    show Done p e below s _ _ _ (T128.setTop (mkF m 102 #[.val (.int p1), .val (.long q2), .second, .val (.long q3), .second, .val (.long q4), .second, .val (.long q5), .second, .val (.int (3 : Int32)), .val (.double (FP.l2d q2)), .second, .val (.double (FP.l2d q3)), .second, .val (.double (FP.l2d q4)), .second, .val (.double (FP.l2d q5)), .second, .val (.ref b120), .val (.double (FP.dadd FP.dconst0 (FP.l2d q2))), .second, .unset, .unset] [(.double (FP.dadd FP.dconst0 (FP.l2d q2)))]))
    refine Done.step (fun t k => XS.dload X128.here hx rfl (hb hby at_102) rfl k) ?_
    show Done p e below s _ _ _ (T128.setTop (mkF m 104 #[.val (.int p1), .val (.long q2), .second, .val (.long q3), .second, .val (.long q4), .second, .val (.long q5), .second, .val (.int (3 : Int32)), .val (.double (FP.l2d q2)), .second, .val (.double (FP.l2d q3)), .second, .val (.double (FP.l2d q4)), .second, .val (.double (FP.l2d q5)), .second, .val (.ref b120), .val (.double (FP.dadd FP.dconst0 (FP.l2d q2))), .second, .unset, .unset] [(.double (FP.l2d q3)), (.double (FP.dadd FP.dconst0 (FP.l2d q2)))]))
    refine Done.step (fun t k => XS.daddS X128.here hx rfl (hb hby at_104) rfl (Jvm.Free.Fl.dadd_out (Jvm.Free.Fl.dadd_out own_z (Jvm.Free.Fl.l2d_fin q2)) (Jvm.Free.Fl.l2d_fin q3)) rfl k) ?_
    show Done p e below s _ _ _ (T128.setTop (mkF m 105 #[.val (.int p1), .val (.long q2), .second, .val (.long q3), .second, .val (.long q4), .second, .val (.long q5), .second, .val (.int (3 : Int32)), .val (.double (FP.l2d q2)), .second, .val (.double (FP.l2d q3)), .second, .val (.double (FP.l2d q4)), .second, .val (.double (FP.l2d q5)), .second, .val (.ref b120), .val (.double (FP.dadd FP.dconst0 (FP.l2d q2))), .second, .unset, .unset] [(.double (FP.dadd (FP.dadd FP.dconst0 (FP.l2d q2)) (FP.l2d q3)))]))
    refine Done.step (fun t k => XS.dstore X128.here hx rfl (hb hby at_105) rfl (l' := #[.val (.int p1), .val (.long q2), .second, .val (.long q3), .second, .val (.long q4), .second, .val (.long q5), .second, .val (.int (3 : Int32)), .val (.double (FP.l2d q2)), .second, .val (.double (FP.l2d q3)), .second, .val (.double (FP.l2d q4)), .second, .val (.double (FP.l2d q5)), .second, .val (.ref b120), .val (.double (FP.dadd (FP.dadd FP.dconst0 (FP.l2d q2)) (FP.l2d q3))), .second, .unset, .unset]) rfl k) ?_
    show Done p e below s _ _ _ (T128.setTop (mkF m 107 #[.val (.int p1), .val (.long q2), .second, .val (.long q3), .second, .val (.long q4), .second, .val (.long q5), .second, .val (.int (3 : Int32)), .val (.double (FP.l2d q2)), .second, .val (.double (FP.l2d q3)), .second, .val (.double (FP.l2d q4)), .second, .val (.double (FP.l2d q5)), .second, .val (.ref b120), .val (.double (FP.dadd (FP.dadd FP.dconst0 (FP.l2d q2)) (FP.l2d q3))), .second, .unset, .unset] []))
    refine Done.step (fun t k => XS.iload X128.here hx rfl (hb hby at_107) rfl k) ?_
    show Done p e below s _ _ _ (T128.setTop (mkF m 109 #[.val (.int p1), .val (.long q2), .second, .val (.long q3), .second, .val (.long q4), .second, .val (.long q5), .second, .val (.int (3 : Int32)), .val (.double (FP.l2d q2)), .second, .val (.double (FP.l2d q3)), .second, .val (.double (FP.l2d q4)), .second, .val (.double (FP.l2d q5)), .second, .val (.ref b120), .val (.double (FP.dadd (FP.dadd FP.dconst0 (FP.l2d q2)) (FP.l2d q3))), .second, .unset, .unset] [(.int (3 : Int32))]))
    refine Done.step (fun t k => XS.iconst X128.here hx rfl (hb hby at_109) k) ?_
    show Done p e below s _ _ _ (T128.setTop (mkF m 110 #[.val (.int p1), .val (.long q2), .second, .val (.long q3), .second, .val (.long q4), .second, .val (.long q5), .second, .val (.int (3 : Int32)), .val (.double (FP.l2d q2)), .second, .val (.double (FP.l2d q3)), .second, .val (.double (FP.l2d q4)), .second, .val (.double (FP.l2d q5)), .second, .val (.ref b120), .val (.double (FP.dadd (FP.dadd FP.dconst0 (FP.l2d q2)) (FP.l2d q3))), .second, .unset, .unset] [(.int (2 : Int32)), (.int (3 : Int32))]))
    refine Done.step (fun t k => XS.icmpNo X128.here hx rfl (hb hby at_110) rfl (tlt (by decide)).2.2.2 k) ?_
    show Done p e below s _ _ _ (T128.setTop (mkF m 113 #[.val (.int p1), .val (.long q2), .second, .val (.long q3), .second, .val (.long q4), .second, .val (.long q5), .second, .val (.int (3 : Int32)), .val (.double (FP.l2d q2)), .second, .val (.double (FP.l2d q3)), .second, .val (.double (FP.l2d q4)), .second, .val (.double (FP.l2d q5)), .second, .val (.ref b120), .val (.double (FP.dadd (FP.dadd FP.dconst0 (FP.l2d q2)) (FP.l2d q3))), .second, .unset, .unset] []))
    refine Done.step (fun t k => XS.dload X128.here hx rfl (hb hby at_113) rfl k) ?_
    show Done p e below s _ _ _ (T128.setTop (mkF m 115 #[.val (.int p1), .val (.long q2), .second, .val (.long q3), .second, .val (.long q4), .second, .val (.long q5), .second, .val (.int (3 : Int32)), .val (.double (FP.l2d q2)), .second, .val (.double (FP.l2d q3)), .second, .val (.double (FP.l2d q4)), .second, .val (.double (FP.l2d q5)), .second, .val (.ref b120), .val (.double (FP.dadd (FP.dadd FP.dconst0 (FP.l2d q2)) (FP.l2d q3))), .second, .unset, .unset] [(.double (FP.dadd (FP.dadd FP.dconst0 (FP.l2d q2)) (FP.l2d q3)))]))
    refine Done.step (fun t k => XS.dload X128.here hx rfl (hb hby at_115) rfl k) ?_
    show Done p e below s _ _ _ (T128.setTop (mkF m 117 #[.val (.int p1), .val (.long q2), .second, .val (.long q3), .second, .val (.long q4), .second, .val (.long q5), .second, .val (.int (3 : Int32)), .val (.double (FP.l2d q2)), .second, .val (.double (FP.l2d q3)), .second, .val (.double (FP.l2d q4)), .second, .val (.double (FP.l2d q5)), .second, .val (.ref b120), .val (.double (FP.dadd (FP.dadd FP.dconst0 (FP.l2d q2)) (FP.l2d q3))), .second, .unset, .unset] [(.double (FP.l2d q4)), (.double (FP.dadd (FP.dadd FP.dconst0 (FP.l2d q2)) (FP.l2d q3)))]))
    refine Done.step (fun t k => XS.daddS X128.here hx rfl (hb hby at_117) rfl (Jvm.Free.Fl.dadd_out (Jvm.Free.Fl.dadd_out (Jvm.Free.Fl.dadd_out own_z (Jvm.Free.Fl.l2d_fin q2)) (Jvm.Free.Fl.l2d_fin q3)) (Jvm.Free.Fl.l2d_fin q4)) rfl k) ?_
    show Done p e below s _ _ _ (T128.setTop (mkF m 118 #[.val (.int p1), .val (.long q2), .second, .val (.long q3), .second, .val (.long q4), .second, .val (.long q5), .second, .val (.int (3 : Int32)), .val (.double (FP.l2d q2)), .second, .val (.double (FP.l2d q3)), .second, .val (.double (FP.l2d q4)), .second, .val (.double (FP.l2d q5)), .second, .val (.ref b120), .val (.double (FP.dadd (FP.dadd FP.dconst0 (FP.l2d q2)) (FP.l2d q3))), .second, .unset, .unset] [(.double (FP.dadd (FP.dadd (FP.dadd FP.dconst0 (FP.l2d q2)) (FP.l2d q3)) (FP.l2d q4)))]))
    refine Done.step (fun t k => XS.dstore X128.here hx rfl (hb hby at_118) rfl (l' := #[.val (.int p1), .val (.long q2), .second, .val (.long q3), .second, .val (.long q4), .second, .val (.long q5), .second, .val (.int (3 : Int32)), .val (.double (FP.l2d q2)), .second, .val (.double (FP.l2d q3)), .second, .val (.double (FP.l2d q4)), .second, .val (.double (FP.l2d q5)), .second, .val (.ref b120), .val (.double (FP.dadd (FP.dadd (FP.dadd FP.dconst0 (FP.l2d q2)) (FP.l2d q3)) (FP.l2d q4))), .second, .unset, .unset]) rfl k) ?_
    show Done p e below s _ _ _ (T128.setTop (mkF m 120 #[.val (.int p1), .val (.long q2), .second, .val (.long q3), .second, .val (.long q4), .second, .val (.long q5), .second, .val (.int (3 : Int32)), .val (.double (FP.l2d q2)), .second, .val (.double (FP.l2d q3)), .second, .val (.double (FP.l2d q4)), .second, .val (.double (FP.l2d q5)), .second, .val (.ref b120), .val (.double (FP.dadd (FP.dadd (FP.dadd FP.dconst0 (FP.l2d q2)) (FP.l2d q3)) (FP.l2d q4))), .second, .unset, .unset] []))
    refine Done.step (fun t k => XS.iload X128.here hx rfl (hb hby at_120) rfl k) ?_
    show Done p e below s _ _ _ (T128.setTop (mkF m 122 #[.val (.int p1), .val (.long q2), .second, .val (.long q3), .second, .val (.long q4), .second, .val (.long q5), .second, .val (.int (3 : Int32)), .val (.double (FP.l2d q2)), .second, .val (.double (FP.l2d q3)), .second, .val (.double (FP.l2d q4)), .second, .val (.double (FP.l2d q5)), .second, .val (.ref b120), .val (.double (FP.dadd (FP.dadd (FP.dadd FP.dconst0 (FP.l2d q2)) (FP.l2d q3)) (FP.l2d q4))), .second, .unset, .unset] [(.int (3 : Int32))]))
    refine Done.step (fun t k => XS.iconst X128.here hx rfl (hb hby at_122) k) ?_
    show Done p e below s _ _ _ (T128.setTop (mkF m 123 #[.val (.int p1), .val (.long q2), .second, .val (.long q3), .second, .val (.long q4), .second, .val (.long q5), .second, .val (.int (3 : Int32)), .val (.double (FP.l2d q2)), .second, .val (.double (FP.l2d q3)), .second, .val (.double (FP.l2d q4)), .second, .val (.double (FP.l2d q5)), .second, .val (.ref b120), .val (.double (FP.dadd (FP.dadd (FP.dadd FP.dconst0 (FP.l2d q2)) (FP.l2d q3)) (FP.l2d q4))), .second, .unset, .unset] [(.int (3 : Int32)), (.int (3 : Int32))]))
    refine Done.step (fun t k => XS.icmpYes X128.here hx rfl (pc0 := 123) (pc' := 133) rfl (hb hby at_123) rfl (flt (by decide)).2.2.2 (by decide) (by decide) k) ?_
    show Done p e below s _ _ _ (T128.setTop (mkF m 133 #[.val (.int p1), .val (.long q2), .second, .val (.long q3), .second, .val (.long q4), .second, .val (.long q5), .second, .val (.int (3 : Int32)), .val (.double (FP.l2d q2)), .second, .val (.double (FP.l2d q3)), .second, .val (.double (FP.l2d q4)), .second, .val (.double (FP.l2d q5)), .second, .val (.ref b120), .val (.double (FP.dadd (FP.dadd (FP.dadd FP.dconst0 (FP.l2d q2)) (FP.l2d q3)) (FP.l2d q4))), .second, .unset, .unset] []))
    refine Done.step (fun t k => XS.aload X128.here hx rfl (hb hby at_133) rfl rfl k) ?_
    show Done p e below s _ _ _ (T128.setTop (mkF m 135 #[.val (.int p1), .val (.long q2), .second, .val (.long q3), .second, .val (.long q4), .second, .val (.long q5), .second, .val (.int (3 : Int32)), .val (.double (FP.l2d q2)), .second, .val (.double (FP.l2d q3)), .second, .val (.double (FP.l2d q4)), .second, .val (.double (FP.l2d q5)), .second, .val (.ref b120), .val (.double (FP.dadd (FP.dadd (FP.dadd FP.dconst0 (FP.l2d q2)) (FP.l2d q3)) (FP.l2d q4))), .second, .unset, .unset] [(.ref b120)]))
    obtain ⟨v131, _, ⟨T131, L131, k131, n131⟩, -, X131, ⟨Lc131, hQ131, l131, y131, z131⟩, st131⟩ := Jvm.LawKit.callS X128 hx (y := (⟨"com/example/wardsum/wardsum/algorithm/TargetNodes", "sum", "([D)D"⟩ : MethodName)) hown (mvT hZ (hw _ (List.mem_of_getElem? (i := 2) rfl))) (mvT hZ (hw _ (List.mem_of_getElem? (i := 3) rfl))) (mvT hZ (hw _ (List.mem_of_getElem? (i := 4) rfl))) (mvT hZ (hw _ (List.mem_of_getElem? (i := 5) rfl))) (by decide) (backOf (W := 0) (rms3 l Z a0 hw [] b120 (FP.l2d q2) (FP.l2d q3) (FP.l2d q4) h128 n0 Z128 f130 (Jvm.Free.Fl.l2d_fin q2) (Jvm.Free.Fl.l2d_fin q3) (Jvm.Free.Fl.l2d_fin q4)) hZ (hw _ (List.mem_of_getElem? (i := 5) rfl)) (hw _ (List.mem_of_getElem? (i := 4) rfl)) (by decide) (by decide)) (g := (mkF m 135 #[.val (.int p1), .val (.long q2), .second, .val (.long q3), .second, .val (.long q4), .second, .val (.long q5), .second, .val (.int (3 : Int32)), .val (.double (FP.l2d q2)), .second, .val (.double (FP.l2d q3)), .second, .val (.double (FP.l2d q4)), .second, .val (.double (FP.l2d q5)), .second, .val (.ref b120), .val (.double (FP.dadd (FP.dadd (FP.dadd FP.dconst0 (FP.l2d q2)) (FP.l2d q3)) (FP.l2d q4))), .second, .unset, .unset] [(.ref b120)])) rfl (by rw [hml]; rfl) (argsL := [(.ref b120)]) (rest := []) (lenOf pd_0 rfl) rfl (by show 2 * 0 + _ ≤ _; exact Nat.le_of_eq rfl) (hb hby at_135) (fun _ _ => ⟨rfl, e128, (by decide : 1 + 0 ≤ _), (by decide : 3 + 0 ≤ _)⟩)
    dsimp only [Pt.U, Pt.locs, Pt.cells, Pt.slots] at X131 l131 y131 z131 st131 hQ131
    subst l131 y131 z131
    refine Done.step st131 ?_
    obtain ⟨rfl, N131q, e131⟩ := hQ131
    have N131 := Fr.app N128 N131q
    show Done p e below s _ _ _ (T131.setTop (mkF m 138 #[.val (.int p1), .val (.long q2), .second, .val (.long q3), .second, .val (.long q4), .second, .val (.long q5), .second, .val (.int (3 : Int32)), .val (.double (FP.l2d q2)), .second, .val (.double (FP.l2d q3)), .second, .val (.double (FP.l2d q4)), .second, .val (.double (FP.l2d q5)), .second, .val (.ref b120), .val (.double (FP.dadd (FP.dadd (FP.dadd FP.dconst0 (FP.l2d q2)) (FP.l2d q3)) (FP.l2d q4))), .second, .unset, .unset] [(.double (FP.dadd (FP.dadd (FP.dadd FP.dconst0 (FP.l2d q2)) (FP.l2d q3)) (FP.l2d q4)))]))
    refine Done.step (fun t k => XS.dstore X131.here hx rfl (hb hby at_138) rfl (l' := #[.val (.int p1), .val (.long q2), .second, .val (.long q3), .second, .val (.long q4), .second, .val (.long q5), .second, .val (.int (3 : Int32)), .val (.double (FP.l2d q2)), .second, .val (.double (FP.l2d q3)), .second, .val (.double (FP.l2d q4)), .second, .val (.double (FP.l2d q5)), .second, .val (.ref b120), .val (.double (FP.dadd (FP.dadd (FP.dadd FP.dconst0 (FP.l2d q2)) (FP.l2d q3)) (FP.l2d q4))), .second, .val (.double (FP.dadd (FP.dadd (FP.dadd FP.dconst0 (FP.l2d q2)) (FP.l2d q3)) (FP.l2d q4))), .second]) rfl k) ?_
    show Done p e below s _ _ _ (T131.setTop (mkF m 140 #[.val (.int p1), .val (.long q2), .second, .val (.long q3), .second, .val (.long q4), .second, .val (.long q5), .second, .val (.int (3 : Int32)), .val (.double (FP.l2d q2)), .second, .val (.double (FP.l2d q3)), .second, .val (.double (FP.l2d q4)), .second, .val (.double (FP.l2d q5)), .second, .val (.ref b120), .val (.double (FP.dadd (FP.dadd (FP.dadd FP.dconst0 (FP.l2d q2)) (FP.l2d q3)) (FP.l2d q4))), .second, .val (.double (FP.dadd (FP.dadd (FP.dadd FP.dconst0 (FP.l2d q2)) (FP.l2d q3)) (FP.l2d q4))), .second] []))
    refine Done.step (fun t k => XS.dload X131.here hx rfl (hb hby at_140) rfl k) ?_
    show Done p e below s _ _ _ (T131.setTop (mkF m 142 #[.val (.int p1), .val (.long q2), .second, .val (.long q3), .second, .val (.long q4), .second, .val (.long q5), .second, .val (.int (3 : Int32)), .val (.double (FP.l2d q2)), .second, .val (.double (FP.l2d q3)), .second, .val (.double (FP.l2d q4)), .second, .val (.double (FP.l2d q5)), .second, .val (.ref b120), .val (.double (FP.dadd (FP.dadd (FP.dadd FP.dconst0 (FP.l2d q2)) (FP.l2d q3)) (FP.l2d q4))), .second, .val (.double (FP.dadd (FP.dadd (FP.dadd FP.dconst0 (FP.l2d q2)) (FP.l2d q3)) (FP.l2d q4))), .second] [(.double (FP.dadd (FP.dadd (FP.dadd FP.dconst0 (FP.l2d q2)) (FP.l2d q3)) (FP.l2d q4)))]))
    refine Done.step (fun t k => XS.dload X131.here hx rfl (hb hby at_142) rfl k) ?_
    show Done p e below s _ _ _ (T131.setTop (mkF m 144 #[.val (.int p1), .val (.long q2), .second, .val (.long q3), .second, .val (.long q4), .second, .val (.long q5), .second, .val (.int (3 : Int32)), .val (.double (FP.l2d q2)), .second, .val (.double (FP.l2d q3)), .second, .val (.double (FP.l2d q4)), .second, .val (.double (FP.l2d q5)), .second, .val (.ref b120), .val (.double (FP.dadd (FP.dadd (FP.dadd FP.dconst0 (FP.l2d q2)) (FP.l2d q3)) (FP.l2d q4))), .second, .val (.double (FP.dadd (FP.dadd (FP.dadd FP.dconst0 (FP.l2d q2)) (FP.l2d q3)) (FP.l2d q4))), .second] [(.double (FP.dadd (FP.dadd (FP.dadd FP.dconst0 (FP.l2d q2)) (FP.l2d q3)) (FP.l2d q4))), (.double (FP.dadd (FP.dadd (FP.dadd FP.dconst0 (FP.l2d q2)) (FP.l2d q3)) (FP.l2d q4)))]))
    refine Done.step (fun t k => XS.dcmpS X131.here hx rfl (hb hby at_144) rfl (dcmpV_self (Jvm.Free.Fl.dadd_out (Jvm.Free.Fl.dadd_out (Jvm.Free.Fl.dadd_out own_z (Jvm.Free.Fl.l2d_fin q2)) (Jvm.Free.Fl.l2d_fin q3)) (Jvm.Free.Fl.l2d_fin q4)) _) k) ?_
    show Done p e below s _ _ _ (T131.setTop (mkF m 145 #[.val (.int p1), .val (.long q2), .second, .val (.long q3), .second, .val (.long q4), .second, .val (.long q5), .second, .val (.int (3 : Int32)), .val (.double (FP.l2d q2)), .second, .val (.double (FP.l2d q3)), .second, .val (.double (FP.l2d q4)), .second, .val (.double (FP.l2d q5)), .second, .val (.ref b120), .val (.double (FP.dadd (FP.dadd (FP.dadd FP.dconst0 (FP.l2d q2)) (FP.l2d q3)) (FP.l2d q4))), .second, .val (.double (FP.dadd (FP.dadd (FP.dadd FP.dconst0 (FP.l2d q2)) (FP.l2d q3)) (FP.l2d q4))), .second] [(.int (0 : Int32))]))
    refine Done.step (fun t k => XS.ifNo X131.here hx rfl (hb hby at_145) rfl ((if0 _ _).trans (teq (by decide)).2) k) ?_
    show Done p e below s _ _ _ (T131.setTop (mkF m 148 #[.val (.int p1), .val (.long q2), .second, .val (.long q3), .second, .val (.long q4), .second, .val (.long q5), .second, .val (.int (3 : Int32)), .val (.double (FP.l2d q2)), .second, .val (.double (FP.l2d q3)), .second, .val (.double (FP.l2d q4)), .second, .val (.double (FP.l2d q5)), .second, .val (.ref b120), .val (.double (FP.dadd (FP.dadd (FP.dadd FP.dconst0 (FP.l2d q2)) (FP.l2d q3)) (FP.l2d q4))), .second, .val (.double (FP.dadd (FP.dadd (FP.dadd FP.dconst0 (FP.l2d q2)) (FP.l2d q3)) (FP.l2d q4))), .second] []))
    refine Done.step (fun t k => XS.iconst X131.here hx rfl (hb hby at_148) k) ?_
    show Done p e below s _ _ _ (T131.setTop (mkF m 149 #[.val (.int p1), .val (.long q2), .second, .val (.long q3), .second, .val (.long q4), .second, .val (.long q5), .second, .val (.int (3 : Int32)), .val (.double (FP.l2d q2)), .second, .val (.double (FP.l2d q3)), .second, .val (.double (FP.l2d q4)), .second, .val (.double (FP.l2d q5)), .second, .val (.ref b120), .val (.double (FP.dadd (FP.dadd (FP.dadd FP.dconst0 (FP.l2d q2)) (FP.l2d q3)) (FP.l2d q4))), .second, .val (.double (FP.dadd (FP.dadd (FP.dadd FP.dconst0 (FP.l2d q2)) (FP.l2d q3)) (FP.l2d q4))), .second] [(.int (1 : Int32))]))
    refine Done.step (fun t k => XS.goto X131.here hx rfl (pc0 := 149) (pc' := 153) rfl (hb hby at_149) (by decide) (by decide) k) ?_
    show Done p e below s _ _ _ (T131.setTop (mkF m 153 #[.val (.int p1), .val (.long q2), .second, .val (.long q3), .second, .val (.long q4), .second, .val (.long q5), .second, .val (.int (3 : Int32)), .val (.double (FP.l2d q2)), .second, .val (.double (FP.l2d q3)), .second, .val (.double (FP.l2d q4)), .second, .val (.double (FP.l2d q5)), .second, .val (.ref b120), .val (.double (FP.dadd (FP.dadd (FP.dadd FP.dconst0 (FP.l2d q2)) (FP.l2d q3)) (FP.l2d q4))), .second, .val (.double (FP.dadd (FP.dadd (FP.dadd FP.dconst0 (FP.l2d q2)) (FP.l2d q3)) (FP.l2d q4))), .second] [(.int (1 : Int32))]))
    exact Done.narr X131 hx hlk hret (by simp) (hb hby at_153) (by decide) (by decide) ⟨rfl, N131⟩
  · subst hk
    show Done p e below s _ _ _ (s₁.setTop (mkF m 26 #[.val (.int p1), .val (.long q2), .second, .val (.long q3), .second, .val (.long q4), .second, .val (.long q5), .second, .val (.int (4 : Int32)), .val (.double (FP.l2d q2)), .second, .val (.double (FP.l2d q3)), .second, .val (.double (FP.l2d q4)), .second, .val (.double (FP.l2d q5)), .second, .unset, .unset, .unset, .unset, .unset] []))
    refine Done.step (fun t k => XS.iload X0.here hx rfl (hb hby at_26) rfl k) ?_
    show Done p e below s _ _ _ (s₁.setTop (mkF m 28 #[.val (.int p1), .val (.long q2), .second, .val (.long q3), .second, .val (.long q4), .second, .val (.long q5), .second, .val (.int (4 : Int32)), .val (.double (FP.l2d q2)), .second, .val (.double (FP.l2d q3)), .second, .val (.double (FP.l2d q4)), .second, .val (.double (FP.l2d q5)), .second, .unset, .unset, .unset, .unset, .unset] [(.int (4 : Int32))]))
    obtain ⟨T132, h132, k132, X132, e132, E132, A132, B132, st132⟩ := newPE X0 hx hZ (hw _ (List.mem_of_getElem? (i := 1) rfl)) e0 (g := (mkF m 28 #[.val (.int p1), .val (.long q2), .second, .val (.long q3), .second, .val (.long q4), .second, .val (.long q5), .second, .val (.int (4 : Int32)), .val (.double (FP.l2d q2)), .second, .val (.double (FP.l2d q3)), .second, .val (.double (FP.l2d q4)), .second, .val (.double (FP.l2d q5)), .second, .unset, .unset, .unset, .unset, .unset] [(.int (4 : Int32))])) rfl (hb hby at_28) rfl (by decide) (cap := 4) (by decide) (by decide) (by decide) (by decide) (ad := "[D") (by decide)
    obtain ⟨b132, gq132⟩ : ∃ z, z = h0.size := ⟨_, rfl⟩
    rw [← gq132] at A132 B132 st132
    have g_b132 : n0 ≤ b132 := Nat.le_trans Z0 (Nat.le_of_eq gq132.symm)
    have Z132 : n0 ≤ h132.size := Nat.le_trans Z0 E132.1
    have f133 : Ax Z h132 b132 .double [(.double (0 : UInt64)), (.double (0 : UInt64)), (.double (0 : UInt64)), (.double (0 : UInt64))] := Ax.new (ty := .double) (i := 4) A132 (by decide)
    refine Done.step st132 ?_
    show Done p e below s _ _ _ (T132.setTop (mkF m 30 #[.val (.int p1), .val (.long q2), .second, .val (.long q3), .second, .val (.long q4), .second, .val (.long q5), .second, .val (.int (4 : Int32)), .val (.double (FP.l2d q2)), .second, .val (.double (FP.l2d q3)), .second, .val (.double (FP.l2d q4)), .second, .val (.double (FP.l2d q5)), .second, .unset, .unset, .unset, .unset, .unset] [(.ref b132)]))
    refine Done.step (fun t k => XS.astore X132.here hx rfl (hb hby at_30) rfl rfl (l' := #[.val (.int p1), .val (.long q2), .second, .val (.long q3), .second, .val (.long q4), .second, .val (.long q5), .second, .val (.int (4 : Int32)), .val (.double (FP.l2d q2)), .second, .val (.double (FP.l2d q3)), .second, .val (.double (FP.l2d q4)), .second, .val (.double (FP.l2d q5)), .second, .val (.ref b132), .unset, .unset, .unset, .unset]) rfl k) ?_
    show Done p e below s _ _ _ (T132.setTop (mkF m 32 #[.val (.int p1), .val (.long q2), .second, .val (.long q3), .second, .val (.long q4), .second, .val (.long q5), .second, .val (.int (4 : Int32)), .val (.double (FP.l2d q2)), .second, .val (.double (FP.l2d q3)), .second, .val (.double (FP.l2d q4)), .second, .val (.double (FP.l2d q5)), .second, .val (.ref b132), .unset, .unset, .unset, .unset] []))
    refine Done.step (fun t k => XS.iload X132.here hx rfl (hb hby at_32) rfl k) ?_
    show Done p e below s _ _ _ (T132.setTop (mkF m 34 #[.val (.int p1), .val (.long q2), .second, .val (.long q3), .second, .val (.long q4), .second, .val (.long q5), .second, .val (.int (4 : Int32)), .val (.double (FP.l2d q2)), .second, .val (.double (FP.l2d q3)), .second, .val (.double (FP.l2d q4)), .second, .val (.double (FP.l2d q5)), .second, .val (.ref b132), .unset, .unset, .unset, .unset] [(.int (4 : Int32))]))
    refine Done.step (fun t k => XS.ifNo X132.here hx rfl (hb hby at_34) rfl ((if0 _ _).trans (tlt (by decide)).2.2.2) k) ?_
    show Done p e below s _ _ _ (T132.setTop (mkF m 37 #[.val (.int p1), .val (.long q2), .second, .val (.long q3), .second, .val (.long q4), .second, .val (.long q5), .second, .val (.int (4 : Int32)), .val (.double (FP.l2d q2)), .second, .val (.double (FP.l2d q3)), .second, .val (.double (FP.l2d q4)), .second, .val (.double (FP.l2d q5)), .second, .val (.ref b132), .unset, .unset, .unset, .unset] []))
    refine Done.step (fun t k => XS.aload X132.here hx rfl (hb hby at_37) rfl rfl k) ?_
    show Done p e below s _ _ _ (T132.setTop (mkF m 39 #[.val (.int p1), .val (.long q2), .second, .val (.long q3), .second, .val (.long q4), .second, .val (.long q5), .second, .val (.int (4 : Int32)), .val (.double (FP.l2d q2)), .second, .val (.double (FP.l2d q3)), .second, .val (.double (FP.l2d q4)), .second, .val (.double (FP.l2d q5)), .second, .val (.ref b132), .unset, .unset, .unset, .unset] [(.ref b132)]))
    refine Done.step (fun t k => XS.iconst X132.here hx rfl (hb hby at_39) k) ?_
    show Done p e below s _ _ _ (T132.setTop (mkF m 40 #[.val (.int p1), .val (.long q2), .second, .val (.long q3), .second, .val (.long q4), .second, .val (.long q5), .second, .val (.int (4 : Int32)), .val (.double (FP.l2d q2)), .second, .val (.double (FP.l2d q3)), .second, .val (.double (FP.l2d q4)), .second, .val (.double (FP.l2d q5)), .second, .val (.ref b132), .unset, .unset, .unset, .unset] [(.int (0 : Int32)), (.ref b132)]))
    refine Done.step (fun t k => XS.dload X132.here hx rfl (hb hby at_40) rfl k) ?_
    show Done p e below s _ _ _ (T132.setTop (mkF m 42 #[.val (.int p1), .val (.long q2), .second, .val (.long q3), .second, .val (.long q4), .second, .val (.long q5), .second, .val (.int (4 : Int32)), .val (.double (FP.l2d q2)), .second, .val (.double (FP.l2d q3)), .second, .val (.double (FP.l2d q4)), .second, .val (.double (FP.l2d q5)), .second, .val (.ref b132), .unset, .unset, .unset, .unset] [(.double (FP.l2d q2)), (.int (0 : Int32)), (.ref b132)]))
    obtain ⟨T134, h134, X134, e134, W134, A134, st134⟩ := stoD X132 hx hZ e132 f133 (j := (0 : Int32)) (by decide) (i := 0) (by decide) (Nat.le_of_ble_eq_true rfl) (g := (mkF m 42 #[.val (.int p1), .val (.long q2), .second, .val (.long q3), .second, .val (.long q4), .second, .val (.long q5), .second, .val (.int (4 : Int32)), .val (.double (FP.l2d q2)), .second, .val (.double (FP.l2d q3)), .second, .val (.double (FP.l2d q4)), .second, .val (.double (FP.l2d q5)), .second, .val (.ref b132), .unset, .unset, .unset, .unset] [(.double (FP.l2d q2)), (.int (0 : Int32)), (.ref b132)])) rfl rfl (hb hby at_42)
    have f135 : Exa Z h134 b132 "[D" := B132.wr W134
    have f136 : Ax Z h134 b132 .double [(.double (FP.l2d q2)), (.double (0 : UInt64)), (.double (0 : UInt64)), (.double (0 : UInt64))] := A134
    have Z134 : n0 ≤ h134.size := Nat.le_trans Z132 (Keep.of_wr W134).1
    have N134 := Fr.snoc X134 N0 g_b132
    refine Done.step st134 ?_
    show Done p e below s _ _ _ (T134.setTop (mkF m 43 #[.val (.int p1), .val (.long q2), .second, .val (.long q3), .second, .val (.long q4), .second, .val (.long q5), .second, .val (.int (4 : Int32)), .val (.double (FP.l2d q2)), .second, .val (.double (FP.l2d q3)), .second, .val (.double (FP.l2d q4)), .second, .val (.double (FP.l2d q5)), .second, .val (.ref b132), .unset, .unset, .unset, .unset] []))
    refine Done.step (fun t k => XS.iload X134.here hx rfl (hb hby at_43) rfl k) ?_
    show Done p e below s _ _ _ (T134.setTop (mkF m 45 #[.val (.int p1), .val (.long q2), .second, .val (.long q3), .second, .val (.long q4), .second, .val (.long q5), .second, .val (.int (4 : Int32)), .val (.double (FP.l2d q2)), .second, .val (.double (FP.l2d q3)), .second, .val (.double (FP.l2d q4)), .second, .val (.double (FP.l2d q5)), .second, .val (.ref b132), .unset, .unset, .unset, .unset] [(.int (4 : Int32))]))
    refine Done.step (fun t k => XS.iconst X134.here hx rfl (hb hby at_45) k) ?_
    show Done p e below s _ _ _ (T134.setTop (mkF m 46 #[.val (.int p1), .val (.long q2), .second, .val (.long q3), .second, .val (.long q4), .second, .val (.long q5), .second, .val (.int (4 : Int32)), .val (.double (FP.l2d q2)), .second, .val (.double (FP.l2d q3)), .second, .val (.double (FP.l2d q4)), .second, .val (.double (FP.l2d q5)), .second, .val (.ref b132), .unset, .unset, .unset, .unset] [(.int (1 : Int32)), (.int (4 : Int32))]))
    refine Done.step (fun t k => XS.icmpNo X134.here hx rfl (hb hby at_46) rfl (tlt (by decide)).2.2.2 k) ?_
    show Done p e below s _ _ _ (T134.setTop (mkF m 49 #[.val (.int p1), .val (.long q2), .second, .val (.long q3), .second, .val (.long q4), .second, .val (.long q5), .second, .val (.int (4 : Int32)), .val (.double (FP.l2d q2)), .second, .val (.double (FP.l2d q3)), .second, .val (.double (FP.l2d q4)), .second, .val (.double (FP.l2d q5)), .second, .val (.ref b132), .unset, .unset, .unset, .unset] []))
    refine Done.step (fun t k => XS.aload X134.here hx rfl (hb hby at_49) rfl rfl k) ?_
    show Done p e below s _ _ _ (T134.setTop (mkF m 51 #[.val (.int p1), .val (.long q2), .second, .val (.long q3), .second, .val (.long q4), .second, .val (.long q5), .second, .val (.int (4 : Int32)), .val (.double (FP.l2d q2)), .second, .val (.double (FP.l2d q3)), .second, .val (.double (FP.l2d q4)), .second, .val (.double (FP.l2d q5)), .second, .val (.ref b132), .unset, .unset, .unset, .unset] [(.ref b132)]))
    refine Done.step (fun t k => XS.iconst X134.here hx rfl (hb hby at_51) k) ?_
    show Done p e below s _ _ _ (T134.setTop (mkF m 52 #[.val (.int p1), .val (.long q2), .second, .val (.long q3), .second, .val (.long q4), .second, .val (.long q5), .second, .val (.int (4 : Int32)), .val (.double (FP.l2d q2)), .second, .val (.double (FP.l2d q3)), .second, .val (.double (FP.l2d q4)), .second, .val (.double (FP.l2d q5)), .second, .val (.ref b132), .unset, .unset, .unset, .unset] [(.int (1 : Int32)), (.ref b132)]))
    refine Done.step (fun t k => XS.dload X134.here hx rfl (hb hby at_52) rfl k) ?_
    show Done p e below s _ _ _ (T134.setTop (mkF m 54 #[.val (.int p1), .val (.long q2), .second, .val (.long q3), .second, .val (.long q4), .second, .val (.long q5), .second, .val (.int (4 : Int32)), .val (.double (FP.l2d q2)), .second, .val (.double (FP.l2d q3)), .second, .val (.double (FP.l2d q4)), .second, .val (.double (FP.l2d q5)), .second, .val (.ref b132), .unset, .unset, .unset, .unset] [(.double (FP.l2d q3)), (.int (1 : Int32)), (.ref b132)]))
    obtain ⟨T137, h137, X137, e137, W137, A137, st137⟩ := stoD X134 hx hZ e134 f136 (j := (1 : Int32)) (by decide) (i := 1) (by decide) (Nat.le_of_ble_eq_true rfl) (g := (mkF m 54 #[.val (.int p1), .val (.long q2), .second, .val (.long q3), .second, .val (.long q4), .second, .val (.long q5), .second, .val (.int (4 : Int32)), .val (.double (FP.l2d q2)), .second, .val (.double (FP.l2d q3)), .second, .val (.double (FP.l2d q4)), .second, .val (.double (FP.l2d q5)), .second, .val (.ref b132), .unset, .unset, .unset, .unset] [(.double (FP.l2d q3)), (.int (1 : Int32)), (.ref b132)])) rfl rfl (hb hby at_54)
    have f138 : Exa Z h137 b132 "[D" := f135.wr W137
    have f139 : Ax Z h137 b132 .double [(.double (FP.l2d q2)), (.double (FP.l2d q3)), (.double (0 : UInt64)), (.double (0 : UInt64))] := A137
    have Z137 : n0 ≤ h137.size := Nat.le_trans Z134 (Keep.of_wr W137).1
    have N137 := Fr.snoc X137 N134 g_b132
    refine Done.step st137 ?_
    show Done p e below s _ _ _ (T137.setTop (mkF m 55 #[.val (.int p1), .val (.long q2), .second, .val (.long q3), .second, .val (.long q4), .second, .val (.long q5), .second, .val (.int (4 : Int32)), .val (.double (FP.l2d q2)), .second, .val (.double (FP.l2d q3)), .second, .val (.double (FP.l2d q4)), .second, .val (.double (FP.l2d q5)), .second, .val (.ref b132), .unset, .unset, .unset, .unset] []))
    refine Done.step (fun t k => XS.iload X137.here hx rfl (hb hby at_55) rfl k) ?_
    show Done p e below s _ _ _ (T137.setTop (mkF m 57 #[.val (.int p1), .val (.long q2), .second, .val (.long q3), .second, .val (.long q4), .second, .val (.long q5), .second, .val (.int (4 : Int32)), .val (.double (FP.l2d q2)), .second, .val (.double (FP.l2d q3)), .second, .val (.double (FP.l2d q4)), .second, .val (.double (FP.l2d q5)), .second, .val (.ref b132), .unset, .unset, .unset, .unset] [(.int (4 : Int32))]))
    refine Done.step (fun t k => XS.iconst X137.here hx rfl (hb hby at_57) k) ?_
    show Done p e below s _ _ _ (T137.setTop (mkF m 58 #[.val (.int p1), .val (.long q2), .second, .val (.long q3), .second, .val (.long q4), .second, .val (.long q5), .second, .val (.int (4 : Int32)), .val (.double (FP.l2d q2)), .second, .val (.double (FP.l2d q3)), .second, .val (.double (FP.l2d q4)), .second, .val (.double (FP.l2d q5)), .second, .val (.ref b132), .unset, .unset, .unset, .unset] [(.int (2 : Int32)), (.int (4 : Int32))]))
    refine Done.step (fun t k => XS.icmpNo X137.here hx rfl (hb hby at_58) rfl (tlt (by decide)).2.2.2 k) ?_
    show Done p e below s _ _ _ (T137.setTop (mkF m 61 #[.val (.int p1), .val (.long q2), .second, .val (.long q3), .second, .val (.long q4), .second, .val (.long q5), .second, .val (.int (4 : Int32)), .val (.double (FP.l2d q2)), .second, .val (.double (FP.l2d q3)), .second, .val (.double (FP.l2d q4)), .second, .val (.double (FP.l2d q5)), .second, .val (.ref b132), .unset, .unset, .unset, .unset] []))
    refine Done.step (fun t k => XS.aload X137.here hx rfl (hb hby at_61) rfl rfl k) ?_
    show Done p e below s _ _ _ (T137.setTop (mkF m 63 #[.val (.int p1), .val (.long q2), .second, .val (.long q3), .second, .val (.long q4), .second, .val (.long q5), .second, .val (.int (4 : Int32)), .val (.double (FP.l2d q2)), .second, .val (.double (FP.l2d q3)), .second, .val (.double (FP.l2d q4)), .second, .val (.double (FP.l2d q5)), .second, .val (.ref b132), .unset, .unset, .unset, .unset] [(.ref b132)]))
    refine Done.step (fun t k => XS.iconst X137.here hx rfl (hb hby at_63) k) ?_
    show Done p e below s _ _ _ (T137.setTop (mkF m 64 #[.val (.int p1), .val (.long q2), .second, .val (.long q3), .second, .val (.long q4), .second, .val (.long q5), .second, .val (.int (4 : Int32)), .val (.double (FP.l2d q2)), .second, .val (.double (FP.l2d q3)), .second, .val (.double (FP.l2d q4)), .second, .val (.double (FP.l2d q5)), .second, .val (.ref b132), .unset, .unset, .unset, .unset] [(.int (2 : Int32)), (.ref b132)]))
    refine Done.step (fun t k => XS.dload X137.here hx rfl (hb hby at_64) rfl k) ?_
    show Done p e below s _ _ _ (T137.setTop (mkF m 66 #[.val (.int p1), .val (.long q2), .second, .val (.long q3), .second, .val (.long q4), .second, .val (.long q5), .second, .val (.int (4 : Int32)), .val (.double (FP.l2d q2)), .second, .val (.double (FP.l2d q3)), .second, .val (.double (FP.l2d q4)), .second, .val (.double (FP.l2d q5)), .second, .val (.ref b132), .unset, .unset, .unset, .unset] [(.double (FP.l2d q4)), (.int (2 : Int32)), (.ref b132)]))
    obtain ⟨T140, h140, X140, e140, W140, A140, st140⟩ := stoD X137 hx hZ e137 f139 (j := (2 : Int32)) (by decide) (i := 2) (by decide) (Nat.le_of_ble_eq_true rfl) (g := (mkF m 66 #[.val (.int p1), .val (.long q2), .second, .val (.long q3), .second, .val (.long q4), .second, .val (.long q5), .second, .val (.int (4 : Int32)), .val (.double (FP.l2d q2)), .second, .val (.double (FP.l2d q3)), .second, .val (.double (FP.l2d q4)), .second, .val (.double (FP.l2d q5)), .second, .val (.ref b132), .unset, .unset, .unset, .unset] [(.double (FP.l2d q4)), (.int (2 : Int32)), (.ref b132)])) rfl rfl (hb hby at_66)
    have f141 : Exa Z h140 b132 "[D" := f138.wr W140
    have f142 : Ax Z h140 b132 .double [(.double (FP.l2d q2)), (.double (FP.l2d q3)), (.double (FP.l2d q4)), (.double (0 : UInt64))] := A140
    have Z140 : n0 ≤ h140.size := Nat.le_trans Z137 (Keep.of_wr W140).1
    have N140 := Fr.snoc X140 N137 g_b132
    refine Done.step st140 ?_
    show Done p e below s _ _ _ (T140.setTop (mkF m 67 #[.val (.int p1), .val (.long q2), .second, .val (.long q3), .second, .val (.long q4), .second, .val (.long q5), .second, .val (.int (4 : Int32)), .val (.double (FP.l2d q2)), .second, .val (.double (FP.l2d q3)), .second, .val (.double (FP.l2d q4)), .second, .val (.double (FP.l2d q5)), .second, .val (.ref b132), .unset, .unset, .unset, .unset] []))
    refine Done.step (fun t k => XS.iload X140.here hx rfl (hb hby at_67) rfl k) ?_
    show Done p e below s _ _ _ (T140.setTop (mkF m 69 #[.val (.int p1), .val (.long q2), .second, .val (.long q3), .second, .val (.long q4), .second, .val (.long q5), .second, .val (.int (4 : Int32)), .val (.double (FP.l2d q2)), .second, .val (.double (FP.l2d q3)), .second, .val (.double (FP.l2d q4)), .second, .val (.double (FP.l2d q5)), .second, .val (.ref b132), .unset, .unset, .unset, .unset] [(.int (4 : Int32))]))
    refine Done.step (fun t k => XS.iconst X140.here hx rfl (hb hby at_69) k) ?_
    show Done p e below s _ _ _ (T140.setTop (mkF m 70 #[.val (.int p1), .val (.long q2), .second, .val (.long q3), .second, .val (.long q4), .second, .val (.long q5), .second, .val (.int (4 : Int32)), .val (.double (FP.l2d q2)), .second, .val (.double (FP.l2d q3)), .second, .val (.double (FP.l2d q4)), .second, .val (.double (FP.l2d q5)), .second, .val (.ref b132), .unset, .unset, .unset, .unset] [(.int (3 : Int32)), (.int (4 : Int32))]))
    refine Done.step (fun t k => XS.icmpNo X140.here hx rfl (hb hby at_70) rfl (tlt (by decide)).2.2.2 k) ?_
    show Done p e below s _ _ _ (T140.setTop (mkF m 73 #[.val (.int p1), .val (.long q2), .second, .val (.long q3), .second, .val (.long q4), .second, .val (.long q5), .second, .val (.int (4 : Int32)), .val (.double (FP.l2d q2)), .second, .val (.double (FP.l2d q3)), .second, .val (.double (FP.l2d q4)), .second, .val (.double (FP.l2d q5)), .second, .val (.ref b132), .unset, .unset, .unset, .unset] []))
    refine Done.step (fun t k => XS.aload X140.here hx rfl (hb hby at_73) rfl rfl k) ?_
    show Done p e below s _ _ _ (T140.setTop (mkF m 75 #[.val (.int p1), .val (.long q2), .second, .val (.long q3), .second, .val (.long q4), .second, .val (.long q5), .second, .val (.int (4 : Int32)), .val (.double (FP.l2d q2)), .second, .val (.double (FP.l2d q3)), .second, .val (.double (FP.l2d q4)), .second, .val (.double (FP.l2d q5)), .second, .val (.ref b132), .unset, .unset, .unset, .unset] [(.ref b132)]))
    refine Done.step (fun t k => XS.iconst X140.here hx rfl (hb hby at_75) k) ?_
    show Done p e below s _ _ _ (T140.setTop (mkF m 76 #[.val (.int p1), .val (.long q2), .second, .val (.long q3), .second, .val (.long q4), .second, .val (.long q5), .second, .val (.int (4 : Int32)), .val (.double (FP.l2d q2)), .second, .val (.double (FP.l2d q3)), .second, .val (.double (FP.l2d q4)), .second, .val (.double (FP.l2d q5)), .second, .val (.ref b132), .unset, .unset, .unset, .unset] [(.int (3 : Int32)), (.ref b132)]))
    refine Done.step (fun t k => XS.dload X140.here hx rfl (hb hby at_76) rfl k) ?_
    show Done p e below s _ _ _ (T140.setTop (mkF m 78 #[.val (.int p1), .val (.long q2), .second, .val (.long q3), .second, .val (.long q4), .second, .val (.long q5), .second, .val (.int (4 : Int32)), .val (.double (FP.l2d q2)), .second, .val (.double (FP.l2d q3)), .second, .val (.double (FP.l2d q4)), .second, .val (.double (FP.l2d q5)), .second, .val (.ref b132), .unset, .unset, .unset, .unset] [(.double (FP.l2d q5)), (.int (3 : Int32)), (.ref b132)]))
    obtain ⟨T143, h143, X143, e143, W143, A143, st143⟩ := stoD X140 hx hZ e140 f142 (j := (3 : Int32)) (by decide) (i := 3) (by decide) (Nat.le_of_ble_eq_true rfl) (g := (mkF m 78 #[.val (.int p1), .val (.long q2), .second, .val (.long q3), .second, .val (.long q4), .second, .val (.long q5), .second, .val (.int (4 : Int32)), .val (.double (FP.l2d q2)), .second, .val (.double (FP.l2d q3)), .second, .val (.double (FP.l2d q4)), .second, .val (.double (FP.l2d q5)), .second, .val (.ref b132), .unset, .unset, .unset, .unset] [(.double (FP.l2d q5)), (.int (3 : Int32)), (.ref b132)])) rfl rfl (hb hby at_78)
    have f144 : Exa Z h143 b132 "[D" := f141.wr W143
    have f145 : Ax Z h143 b132 .double [(.double (FP.l2d q2)), (.double (FP.l2d q3)), (.double (FP.l2d q4)), (.double (FP.l2d q5))] := A143
    have Z143 : n0 ≤ h143.size := Nat.le_trans Z140 (Keep.of_wr W143).1
    have N143 := Fr.snoc X143 N140 g_b132
    refine Done.step st143 ?_
    show Done p e below s _ _ _ (T143.setTop (mkF m 79 #[.val (.int p1), .val (.long q2), .second, .val (.long q3), .second, .val (.long q4), .second, .val (.long q5), .second, .val (.int (4 : Int32)), .val (.double (FP.l2d q2)), .second, .val (.double (FP.l2d q3)), .second, .val (.double (FP.l2d q4)), .second, .val (.double (FP.l2d q5)), .second, .val (.ref b132), .unset, .unset, .unset, .unset] []))
    refine Done.step (fun t k => XS.dconst0 X143.here hx rfl (hb hby at_79) rfl k) ?_
    show Done p e below s _ _ _ (T143.setTop (mkF m 80 #[.val (.int p1), .val (.long q2), .second, .val (.long q3), .second, .val (.long q4), .second, .val (.long q5), .second, .val (.int (4 : Int32)), .val (.double (FP.l2d q2)), .second, .val (.double (FP.l2d q3)), .second, .val (.double (FP.l2d q4)), .second, .val (.double (FP.l2d q5)), .second, .val (.ref b132), .unset, .unset, .unset, .unset] [(.double FP.dconst0)]))
    refine Done.step (fun t k => XS.dstore X143.here hx rfl (hb hby at_80) rfl (l' := #[.val (.int p1), .val (.long q2), .second, .val (.long q3), .second, .val (.long q4), .second, .val (.long q5), .second, .val (.int (4 : Int32)), .val (.double (FP.l2d q2)), .second, .val (.double (FP.l2d q3)), .second, .val (.double (FP.l2d q4)), .second, .val (.double (FP.l2d q5)), .second, .val (.ref b132), .val (.double FP.dconst0), .second, .unset, .unset]) rfl k) ?_
    show Done p e below s _ _ _ (T143.setTop (mkF m 82 #[.val (.int p1), .val (.long q2), .second, .val (.long q3), .second, .val (.long q4), .second, .val (.long q5), .second, .val (.int (4 : Int32)), .val (.double (FP.l2d q2)), .second, .val (.double (FP.l2d q3)), .second, .val (.double (FP.l2d q4)), .second, .val (.double (FP.l2d q5)), .second, .val (.ref b132), .val (.double FP.dconst0), .second, .unset, .unset] []))
    refine Done.step (fun t k => XS.iload X143.here hx rfl (hb hby at_82) rfl k) ?_
    show Done p e below s _ _ _ (T143.setTop (mkF m 84 #[.val (.int p1), .val (.long q2), .second, .val (.long q3), .second, .val (.long q4), .second, .val (.long q5), .second, .val (.int (4 : Int32)), .val (.double (FP.l2d q2)), .second, .val (.double (FP.l2d q3)), .second, .val (.double (FP.l2d q4)), .second, .val (.double (FP.l2d q5)), .second, .val (.ref b132), .val (.double FP.dconst0), .second, .unset, .unset] [(.int (4 : Int32))]))
    refine Done.step (fun t k => XS.ifNo X143.here hx rfl (hb hby at_84) rfl ((if0 _ _).trans (tlt (by decide)).2.2.2) k) ?_
    show Done p e below s _ _ _ (T143.setTop (mkF m 87 #[.val (.int p1), .val (.long q2), .second, .val (.long q3), .second, .val (.long q4), .second, .val (.long q5), .second, .val (.int (4 : Int32)), .val (.double (FP.l2d q2)), .second, .val (.double (FP.l2d q3)), .second, .val (.double (FP.l2d q4)), .second, .val (.double (FP.l2d q5)), .second, .val (.ref b132), .val (.double FP.dconst0), .second, .unset, .unset] []))
    refine Done.step (fun t k => XS.dload X143.here hx rfl (hb hby at_87) rfl k) ?_
    show Done p e below s _ _ _ (T143.setTop (mkF m 89 #[.val (.int p1), .val (.long q2), .second, .val (.long q3), .second, .val (.long q4), .second, .val (.long q5), .second, .val (.int (4 : Int32)), .val (.double (FP.l2d q2)), .second, .val (.double (FP.l2d q3)), .second, .val (.double (FP.l2d q4)), .second, .val (.double (FP.l2d q5)), .second, .val (.ref b132), .val (.double FP.dconst0), .second, .unset, .unset] [(.double FP.dconst0)]))
    refine Done.step (fun t k => XS.dload X143.here hx rfl (hb hby at_89) rfl k) ?_
    show Done p e below s _ _ _ (T143.setTop (mkF m 91 #[.val (.int p1), .val (.long q2), .second, .val (.long q3), .second, .val (.long q4), .second, .val (.long q5), .second, .val (.int (4 : Int32)), .val (.double (FP.l2d q2)), .second, .val (.double (FP.l2d q3)), .second, .val (.double (FP.l2d q4)), .second, .val (.double (FP.l2d q5)), .second, .val (.ref b132), .val (.double FP.dconst0), .second, .unset, .unset] [(.double (FP.l2d q2)), (.double FP.dconst0)]))
    refine Done.step (fun t k => XS.daddS X143.here hx rfl (hb hby at_91) rfl (Jvm.Free.Fl.dadd_out own_z (Jvm.Free.Fl.l2d_fin q2)) rfl k) ?_
    show Done p e below s _ _ _ (T143.setTop (mkF m 92 #[.val (.int p1), .val (.long q2), .second, .val (.long q3), .second, .val (.long q4), .second, .val (.long q5), .second, .val (.int (4 : Int32)), .val (.double (FP.l2d q2)), .second, .val (.double (FP.l2d q3)), .second, .val (.double (FP.l2d q4)), .second, .val (.double (FP.l2d q5)), .second, .val (.ref b132), .val (.double FP.dconst0), .second, .unset, .unset] [(.double (FP.dadd FP.dconst0 (FP.l2d q2)))]))
    refine Done.step (fun t k => XS.dstore X143.here hx rfl (hb hby at_92) rfl (l' := #[.val (.int p1), .val (.long q2), .second, .val (.long q3), .second, .val (.long q4), .second, .val (.long q5), .second, .val (.int (4 : Int32)), .val (.double (FP.l2d q2)), .second, .val (.double (FP.l2d q3)), .second, .val (.double (FP.l2d q4)), .second, .val (.double (FP.l2d q5)), .second, .val (.ref b132), .val (.double (FP.dadd FP.dconst0 (FP.l2d q2))), .second, .unset, .unset]) rfl k) ?_
    show Done p e below s _ _ _ (T143.setTop (mkF m 94 #[.val (.int p1), .val (.long q2), .second, .val (.long q3), .second, .val (.long q4), .second, .val (.long q5), .second, .val (.int (4 : Int32)), .val (.double (FP.l2d q2)), .second, .val (.double (FP.l2d q3)), .second, .val (.double (FP.l2d q4)), .second, .val (.double (FP.l2d q5)), .second, .val (.ref b132), .val (.double (FP.dadd FP.dconst0 (FP.l2d q2))), .second, .unset, .unset] []))
    refine Done.step (fun t k => XS.iload X143.here hx rfl (hb hby at_94) rfl k) ?_
    show Done p e below s _ _ _ (T143.setTop (mkF m 96 #[.val (.int p1), .val (.long q2), .second, .val (.long q3), .second, .val (.long q4), .second, .val (.long q5), .second, .val (.int (4 : Int32)), .val (.double (FP.l2d q2)), .second, .val (.double (FP.l2d q3)), .second, .val (.double (FP.l2d q4)), .second, .val (.double (FP.l2d q5)), .second, .val (.ref b132), .val (.double (FP.dadd FP.dconst0 (FP.l2d q2))), .second, .unset, .unset] [(.int (4 : Int32))]))
    refine Done.step (fun t k => XS.iconst X143.here hx rfl (hb hby at_96) k) ?_
    show Done p e below s _ _ _ (T143.setTop (mkF m 97 #[.val (.int p1), .val (.long q2), .second, .val (.long q3), .second, .val (.long q4), .second, .val (.long q5), .second, .val (.int (4 : Int32)), .val (.double (FP.l2d q2)), .second, .val (.double (FP.l2d q3)), .second, .val (.double (FP.l2d q4)), .second, .val (.double (FP.l2d q5)), .second, .val (.ref b132), .val (.double (FP.dadd FP.dconst0 (FP.l2d q2))), .second, .unset, .unset] [(.int (1 : Int32)), (.int (4 : Int32))]))
    refine Done.step (fun t k => XS.icmpNo X143.here hx rfl (hb hby at_97) rfl (tlt (by decide)).2.2.2 k) ?_
    show Done p e below s _ _ _ (T143.setTop (mkF m 100 #[.val (.int p1), .val (.long q2), .second, .val (.long q3), .second, .val (.long q4), .second, .val (.long q5), .second, .val (.int (4 : Int32)), .val (.double (FP.l2d q2)), .second, .val (.double (FP.l2d q3)), .second, .val (.double (FP.l2d q4)), .second, .val (.double (FP.l2d q5)), .second, .val (.ref b132), .val (.double (FP.dadd FP.dconst0 (FP.l2d q2))), .second, .unset, .unset] []))
    refine Done.step (fun t k => XS.dload X143.here hx rfl (hb hby at_100) rfl k) ?_
    show Done p e below s _ _ _ (T143.setTop (mkF m 102 #[.val (.int p1), .val (.long q2), .second, .val (.long q3), .second, .val (.long q4), .second, .val (.long q5), .second, .val (.int (4 : Int32)), .val (.double (FP.l2d q2)), .second, .val (.double (FP.l2d q3)), .second, .val (.double (FP.l2d q4)), .second, .val (.double (FP.l2d q5)), .second, .val (.ref b132), .val (.double (FP.dadd FP.dconst0 (FP.l2d q2))), .second, .unset, .unset] [(.double (FP.dadd FP.dconst0 (FP.l2d q2)))]))
    refine Done.step (fun t k => XS.dload X143.here hx rfl (hb hby at_102) rfl k) ?_
    show Done p e below s _ _ _ (T143.setTop (mkF m 104 #[.val (.int p1), .val (.long q2), .second, .val (.long q3), .second, .val (.long q4), .second, .val (.long q5), .second, .val (.int (4 : Int32)), .val (.double (FP.l2d q2)), .second, .val (.double (FP.l2d q3)), .second, .val (.double (FP.l2d q4)), .second, .val (.double (FP.l2d q5)), .second, .val (.ref b132), .val (.double (FP.dadd FP.dconst0 (FP.l2d q2))), .second, .unset, .unset] [(.double (FP.l2d q3)), (.double (FP.dadd FP.dconst0 (FP.l2d q2)))]))
    refine Done.step (fun t k => XS.daddS X143.here hx rfl (hb hby at_104) rfl (Jvm.Free.Fl.dadd_out (Jvm.Free.Fl.dadd_out own_z (Jvm.Free.Fl.l2d_fin q2)) (Jvm.Free.Fl.l2d_fin q3)) rfl k) ?_
    show Done p e below s _ _ _ (T143.setTop (mkF m 105 #[.val (.int p1), .val (.long q2), .second, .val (.long q3), .second, .val (.long q4), .second, .val (.long q5), .second, .val (.int (4 : Int32)), .val (.double (FP.l2d q2)), .second, .val (.double (FP.l2d q3)), .second, .val (.double (FP.l2d q4)), .second, .val (.double (FP.l2d q5)), .second, .val (.ref b132), .val (.double (FP.dadd FP.dconst0 (FP.l2d q2))), .second, .unset, .unset] [(.double (FP.dadd (FP.dadd FP.dconst0 (FP.l2d q2)) (FP.l2d q3)))]))
    refine Done.step (fun t k => XS.dstore X143.here hx rfl (hb hby at_105) rfl (l' := #[.val (.int p1), .val (.long q2), .second, .val (.long q3), .second, .val (.long q4), .second, .val (.long q5), .second, .val (.int (4 : Int32)), .val (.double (FP.l2d q2)), .second, .val (.double (FP.l2d q3)), .second, .val (.double (FP.l2d q4)), .second, .val (.double (FP.l2d q5)), .second, .val (.ref b132), .val (.double (FP.dadd (FP.dadd FP.dconst0 (FP.l2d q2)) (FP.l2d q3))), .second, .unset, .unset]) rfl k) ?_
    show Done p e below s _ _ _ (T143.setTop (mkF m 107 #[.val (.int p1), .val (.long q2), .second, .val (.long q3), .second, .val (.long q4), .second, .val (.long q5), .second, .val (.int (4 : Int32)), .val (.double (FP.l2d q2)), .second, .val (.double (FP.l2d q3)), .second, .val (.double (FP.l2d q4)), .second, .val (.double (FP.l2d q5)), .second, .val (.ref b132), .val (.double (FP.dadd (FP.dadd FP.dconst0 (FP.l2d q2)) (FP.l2d q3))), .second, .unset, .unset] []))
    refine Done.step (fun t k => XS.iload X143.here hx rfl (hb hby at_107) rfl k) ?_
    show Done p e below s _ _ _ (T143.setTop (mkF m 109 #[.val (.int p1), .val (.long q2), .second, .val (.long q3), .second, .val (.long q4), .second, .val (.long q5), .second, .val (.int (4 : Int32)), .val (.double (FP.l2d q2)), .second, .val (.double (FP.l2d q3)), .second, .val (.double (FP.l2d q4)), .second, .val (.double (FP.l2d q5)), .second, .val (.ref b132), .val (.double (FP.dadd (FP.dadd FP.dconst0 (FP.l2d q2)) (FP.l2d q3))), .second, .unset, .unset] [(.int (4 : Int32))]))
    refine Done.step (fun t k => XS.iconst X143.here hx rfl (hb hby at_109) k) ?_
    show Done p e below s _ _ _ (T143.setTop (mkF m 110 #[.val (.int p1), .val (.long q2), .second, .val (.long q3), .second, .val (.long q4), .second, .val (.long q5), .second, .val (.int (4 : Int32)), .val (.double (FP.l2d q2)), .second, .val (.double (FP.l2d q3)), .second, .val (.double (FP.l2d q4)), .second, .val (.double (FP.l2d q5)), .second, .val (.ref b132), .val (.double (FP.dadd (FP.dadd FP.dconst0 (FP.l2d q2)) (FP.l2d q3))), .second, .unset, .unset] [(.int (2 : Int32)), (.int (4 : Int32))]))
    refine Done.step (fun t k => XS.icmpNo X143.here hx rfl (hb hby at_110) rfl (tlt (by decide)).2.2.2 k) ?_
    show Done p e below s _ _ _ (T143.setTop (mkF m 113 #[.val (.int p1), .val (.long q2), .second, .val (.long q3), .second, .val (.long q4), .second, .val (.long q5), .second, .val (.int (4 : Int32)), .val (.double (FP.l2d q2)), .second, .val (.double (FP.l2d q3)), .second, .val (.double (FP.l2d q4)), .second, .val (.double (FP.l2d q5)), .second, .val (.ref b132), .val (.double (FP.dadd (FP.dadd FP.dconst0 (FP.l2d q2)) (FP.l2d q3))), .second, .unset, .unset] []))
    refine Done.step (fun t k => XS.dload X143.here hx rfl (hb hby at_113) rfl k) ?_
    show Done p e below s _ _ _ (T143.setTop (mkF m 115 #[.val (.int p1), .val (.long q2), .second, .val (.long q3), .second, .val (.long q4), .second, .val (.long q5), .second, .val (.int (4 : Int32)), .val (.double (FP.l2d q2)), .second, .val (.double (FP.l2d q3)), .second, .val (.double (FP.l2d q4)), .second, .val (.double (FP.l2d q5)), .second, .val (.ref b132), .val (.double (FP.dadd (FP.dadd FP.dconst0 (FP.l2d q2)) (FP.l2d q3))), .second, .unset, .unset] [(.double (FP.dadd (FP.dadd FP.dconst0 (FP.l2d q2)) (FP.l2d q3)))]))
    refine Done.step (fun t k => XS.dload X143.here hx rfl (hb hby at_115) rfl k) ?_
    show Done p e below s _ _ _ (T143.setTop (mkF m 117 #[.val (.int p1), .val (.long q2), .second, .val (.long q3), .second, .val (.long q4), .second, .val (.long q5), .second, .val (.int (4 : Int32)), .val (.double (FP.l2d q2)), .second, .val (.double (FP.l2d q3)), .second, .val (.double (FP.l2d q4)), .second, .val (.double (FP.l2d q5)), .second, .val (.ref b132), .val (.double (FP.dadd (FP.dadd FP.dconst0 (FP.l2d q2)) (FP.l2d q3))), .second, .unset, .unset] [(.double (FP.l2d q4)), (.double (FP.dadd (FP.dadd FP.dconst0 (FP.l2d q2)) (FP.l2d q3)))]))
    refine Done.step (fun t k => XS.daddS X143.here hx rfl (hb hby at_117) rfl (Jvm.Free.Fl.dadd_out (Jvm.Free.Fl.dadd_out (Jvm.Free.Fl.dadd_out own_z (Jvm.Free.Fl.l2d_fin q2)) (Jvm.Free.Fl.l2d_fin q3)) (Jvm.Free.Fl.l2d_fin q4)) rfl k) ?_
    show Done p e below s _ _ _ (T143.setTop (mkF m 118 #[.val (.int p1), .val (.long q2), .second, .val (.long q3), .second, .val (.long q4), .second, .val (.long q5), .second, .val (.int (4 : Int32)), .val (.double (FP.l2d q2)), .second, .val (.double (FP.l2d q3)), .second, .val (.double (FP.l2d q4)), .second, .val (.double (FP.l2d q5)), .second, .val (.ref b132), .val (.double (FP.dadd (FP.dadd FP.dconst0 (FP.l2d q2)) (FP.l2d q3))), .second, .unset, .unset] [(.double (FP.dadd (FP.dadd (FP.dadd FP.dconst0 (FP.l2d q2)) (FP.l2d q3)) (FP.l2d q4)))]))
    refine Done.step (fun t k => XS.dstore X143.here hx rfl (hb hby at_118) rfl (l' := #[.val (.int p1), .val (.long q2), .second, .val (.long q3), .second, .val (.long q4), .second, .val (.long q5), .second, .val (.int (4 : Int32)), .val (.double (FP.l2d q2)), .second, .val (.double (FP.l2d q3)), .second, .val (.double (FP.l2d q4)), .second, .val (.double (FP.l2d q5)), .second, .val (.ref b132), .val (.double (FP.dadd (FP.dadd (FP.dadd FP.dconst0 (FP.l2d q2)) (FP.l2d q3)) (FP.l2d q4))), .second, .unset, .unset]) rfl k) ?_
    show Done p e below s _ _ _ (T143.setTop (mkF m 120 #[.val (.int p1), .val (.long q2), .second, .val (.long q3), .second, .val (.long q4), .second, .val (.long q5), .second, .val (.int (4 : Int32)), .val (.double (FP.l2d q2)), .second, .val (.double (FP.l2d q3)), .second, .val (.double (FP.l2d q4)), .second, .val (.double (FP.l2d q5)), .second, .val (.ref b132), .val (.double (FP.dadd (FP.dadd (FP.dadd FP.dconst0 (FP.l2d q2)) (FP.l2d q3)) (FP.l2d q4))), .second, .unset, .unset] []))
    refine Done.step (fun t k => XS.iload X143.here hx rfl (hb hby at_120) rfl k) ?_
    show Done p e below s _ _ _ (T143.setTop (mkF m 122 #[.val (.int p1), .val (.long q2), .second, .val (.long q3), .second, .val (.long q4), .second, .val (.long q5), .second, .val (.int (4 : Int32)), .val (.double (FP.l2d q2)), .second, .val (.double (FP.l2d q3)), .second, .val (.double (FP.l2d q4)), .second, .val (.double (FP.l2d q5)), .second, .val (.ref b132), .val (.double (FP.dadd (FP.dadd (FP.dadd FP.dconst0 (FP.l2d q2)) (FP.l2d q3)) (FP.l2d q4))), .second, .unset, .unset] [(.int (4 : Int32))]))
    refine Done.step (fun t k => XS.iconst X143.here hx rfl (hb hby at_122) k) ?_
    show Done p e below s _ _ _ (T143.setTop (mkF m 123 #[.val (.int p1), .val (.long q2), .second, .val (.long q3), .second, .val (.long q4), .second, .val (.long q5), .second, .val (.int (4 : Int32)), .val (.double (FP.l2d q2)), .second, .val (.double (FP.l2d q3)), .second, .val (.double (FP.l2d q4)), .second, .val (.double (FP.l2d q5)), .second, .val (.ref b132), .val (.double (FP.dadd (FP.dadd (FP.dadd FP.dconst0 (FP.l2d q2)) (FP.l2d q3)) (FP.l2d q4))), .second, .unset, .unset] [(.int (3 : Int32)), (.int (4 : Int32))]))
    refine Done.step (fun t k => XS.icmpNo X143.here hx rfl (hb hby at_123) rfl (tlt (by decide)).2.2.2 k) ?_
    show Done p e below s _ _ _ (T143.setTop (mkF m 126 #[.val (.int p1), .val (.long q2), .second, .val (.long q3), .second, .val (.long q4), .second, .val (.long q5), .second, .val (.int (4 : Int32)), .val (.double (FP.l2d q2)), .second, .val (.double (FP.l2d q3)), .second, .val (.double (FP.l2d q4)), .second, .val (.double (FP.l2d q5)), .second, .val (.ref b132), .val (.double (FP.dadd (FP.dadd (FP.dadd FP.dconst0 (FP.l2d q2)) (FP.l2d q3)) (FP.l2d q4))), .second, .unset, .unset] []))
    refine Done.step (fun t k => XS.dload X143.here hx rfl (hb hby at_126) rfl k) ?_
    show Done p e below s _ _ _ (T143.setTop (mkF m 128 #[.val (.int p1), .val (.long q2), .second, .val (.long q3), .second, .val (.long q4), .second, .val (.long q5), .second, .val (.int (4 : Int32)), .val (.double (FP.l2d q2)), .second, .val (.double (FP.l2d q3)), .second, .val (.double (FP.l2d q4)), .second, .val (.double (FP.l2d q5)), .second, .val (.ref b132), .val (.double (FP.dadd (FP.dadd (FP.dadd FP.dconst0 (FP.l2d q2)) (FP.l2d q3)) (FP.l2d q4))), .second, .unset, .unset] [(.double (FP.dadd (FP.dadd (FP.dadd FP.dconst0 (FP.l2d q2)) (FP.l2d q3)) (FP.l2d q4)))]))
    refine Done.step (fun t k => XS.dload X143.here hx rfl (hb hby at_128) rfl k) ?_
    show Done p e below s _ _ _ (T143.setTop (mkF m 130 #[.val (.int p1), .val (.long q2), .second, .val (.long q3), .second, .val (.long q4), .second, .val (.long q5), .second, .val (.int (4 : Int32)), .val (.double (FP.l2d q2)), .second, .val (.double (FP.l2d q3)), .second, .val (.double (FP.l2d q4)), .second, .val (.double (FP.l2d q5)), .second, .val (.ref b132), .val (.double (FP.dadd (FP.dadd (FP.dadd FP.dconst0 (FP.l2d q2)) (FP.l2d q3)) (FP.l2d q4))), .second, .unset, .unset] [(.double (FP.l2d q5)), (.double (FP.dadd (FP.dadd (FP.dadd FP.dconst0 (FP.l2d q2)) (FP.l2d q3)) (FP.l2d q4)))]))
    refine Done.step (fun t k => XS.daddS X143.here hx rfl (hb hby at_130) rfl (Jvm.Free.Fl.dadd_out (Jvm.Free.Fl.dadd_out (Jvm.Free.Fl.dadd_out (Jvm.Free.Fl.dadd_out own_z (Jvm.Free.Fl.l2d_fin q2)) (Jvm.Free.Fl.l2d_fin q3)) (Jvm.Free.Fl.l2d_fin q4)) (Jvm.Free.Fl.l2d_fin q5)) rfl k) ?_
    show Done p e below s _ _ _ (T143.setTop (mkF m 131 #[.val (.int p1), .val (.long q2), .second, .val (.long q3), .second, .val (.long q4), .second, .val (.long q5), .second, .val (.int (4 : Int32)), .val (.double (FP.l2d q2)), .second, .val (.double (FP.l2d q3)), .second, .val (.double (FP.l2d q4)), .second, .val (.double (FP.l2d q5)), .second, .val (.ref b132), .val (.double (FP.dadd (FP.dadd (FP.dadd FP.dconst0 (FP.l2d q2)) (FP.l2d q3)) (FP.l2d q4))), .second, .unset, .unset] [(.double (FP.dadd (FP.dadd (FP.dadd (FP.dadd FP.dconst0 (FP.l2d q2)) (FP.l2d q3)) (FP.l2d q4)) (FP.l2d q5)))]))
    refine Done.step (fun t k => XS.dstore X143.here hx rfl (hb hby at_131) rfl (l' := #[.val (.int p1), .val (.long q2), .second, .val (.long q3), .second, .val (.long q4), .second, .val (.long q5), .second, .val (.int (4 : Int32)), .val (.double (FP.l2d q2)), .second, .val (.double (FP.l2d q3)), .second, .val (.double (FP.l2d q4)), .second, .val (.double (FP.l2d q5)), .second, .val (.ref b132), .val (.double (FP.dadd (FP.dadd (FP.dadd (FP.dadd FP.dconst0 (FP.l2d q2)) (FP.l2d q3)) (FP.l2d q4)) (FP.l2d q5))), .second, .unset, .unset]) rfl k) ?_
    show Done p e below s _ _ _ (T143.setTop (mkF m 133 #[.val (.int p1), .val (.long q2), .second, .val (.long q3), .second, .val (.long q4), .second, .val (.long q5), .second, .val (.int (4 : Int32)), .val (.double (FP.l2d q2)), .second, .val (.double (FP.l2d q3)), .second, .val (.double (FP.l2d q4)), .second, .val (.double (FP.l2d q5)), .second, .val (.ref b132), .val (.double (FP.dadd (FP.dadd (FP.dadd (FP.dadd FP.dconst0 (FP.l2d q2)) (FP.l2d q3)) (FP.l2d q4)) (FP.l2d q5))), .second, .unset, .unset] []))
    refine Done.step (fun t k => XS.aload X143.here hx rfl (hb hby at_133) rfl rfl k) ?_
    show Done p e below s _ _ _ (T143.setTop (mkF m 135 #[.val (.int p1), .val (.long q2), .second, .val (.long q3), .second, .val (.long q4), .second, .val (.long q5), .second, .val (.int (4 : Int32)), .val (.double (FP.l2d q2)), .second, .val (.double (FP.l2d q3)), .second, .val (.double (FP.l2d q4)), .second, .val (.double (FP.l2d q5)), .second, .val (.ref b132), .val (.double (FP.dadd (FP.dadd (FP.dadd (FP.dadd FP.dconst0 (FP.l2d q2)) (FP.l2d q3)) (FP.l2d q4)) (FP.l2d q5))), .second, .unset, .unset] [(.ref b132)]))
    obtain ⟨v146, _, ⟨T146, L146, k146, n146⟩, -, X146, ⟨Lc146, hQ146, l146, y146, z146⟩, st146⟩ := Jvm.LawKit.callS X143 hx (y := (⟨"com/example/wardsum/wardsum/algorithm/TargetNodes", "sum", "([D)D"⟩ : MethodName)) hown (mvT hZ (hw _ (List.mem_of_getElem? (i := 2) rfl))) (mvT hZ (hw _ (List.mem_of_getElem? (i := 3) rfl))) (mvT hZ (hw _ (List.mem_of_getElem? (i := 4) rfl))) (mvT hZ (hw _ (List.mem_of_getElem? (i := 5) rfl))) (by decide) (backOf (W := 0) (rms4 l Z a0 hw [] b132 (FP.l2d q2) (FP.l2d q3) (FP.l2d q4) (FP.l2d q5) h143 n0 Z143 f145 (Jvm.Free.Fl.l2d_fin q2) (Jvm.Free.Fl.l2d_fin q3) (Jvm.Free.Fl.l2d_fin q4) (Jvm.Free.Fl.l2d_fin q5)) hZ (hw _ (List.mem_of_getElem? (i := 5) rfl)) (hw _ (List.mem_of_getElem? (i := 4) rfl)) (by decide) (by decide)) (g := (mkF m 135 #[.val (.int p1), .val (.long q2), .second, .val (.long q3), .second, .val (.long q4), .second, .val (.long q5), .second, .val (.int (4 : Int32)), .val (.double (FP.l2d q2)), .second, .val (.double (FP.l2d q3)), .second, .val (.double (FP.l2d q4)), .second, .val (.double (FP.l2d q5)), .second, .val (.ref b132), .val (.double (FP.dadd (FP.dadd (FP.dadd (FP.dadd FP.dconst0 (FP.l2d q2)) (FP.l2d q3)) (FP.l2d q4)) (FP.l2d q5))), .second, .unset, .unset] [(.ref b132)])) rfl (by rw [hml]; rfl) (argsL := [(.ref b132)]) (rest := []) (lenOf pd_0 rfl) rfl (by show 2 * 0 + _ ≤ _; exact Nat.le_of_eq rfl) (hb hby at_135) (fun _ _ => ⟨rfl, e143, (by decide : 1 + 0 ≤ _), (by decide : 4 + 0 ≤ _)⟩)
    dsimp only [Pt.U, Pt.locs, Pt.cells, Pt.slots] at X146 l146 y146 z146 st146 hQ146
    subst l146 y146 z146
    refine Done.step st146 ?_
    obtain ⟨rfl, N146q, e146⟩ := hQ146
    have N146 := Fr.app N143 N146q
    show Done p e below s _ _ _ (T146.setTop (mkF m 138 #[.val (.int p1), .val (.long q2), .second, .val (.long q3), .second, .val (.long q4), .second, .val (.long q5), .second, .val (.int (4 : Int32)), .val (.double (FP.l2d q2)), .second, .val (.double (FP.l2d q3)), .second, .val (.double (FP.l2d q4)), .second, .val (.double (FP.l2d q5)), .second, .val (.ref b132), .val (.double (FP.dadd (FP.dadd (FP.dadd (FP.dadd FP.dconst0 (FP.l2d q2)) (FP.l2d q3)) (FP.l2d q4)) (FP.l2d q5))), .second, .unset, .unset] [(.double (FP.dadd (FP.dadd (FP.dadd (FP.dadd FP.dconst0 (FP.l2d q2)) (FP.l2d q3)) (FP.l2d q4)) (FP.l2d q5)))]))
    refine Done.step (fun t k => XS.dstore X146.here hx rfl (hb hby at_138) rfl (l' := #[.val (.int p1), .val (.long q2), .second, .val (.long q3), .second, .val (.long q4), .second, .val (.long q5), .second, .val (.int (4 : Int32)), .val (.double (FP.l2d q2)), .second, .val (.double (FP.l2d q3)), .second, .val (.double (FP.l2d q4)), .second, .val (.double (FP.l2d q5)), .second, .val (.ref b132), .val (.double (FP.dadd (FP.dadd (FP.dadd (FP.dadd FP.dconst0 (FP.l2d q2)) (FP.l2d q3)) (FP.l2d q4)) (FP.l2d q5))), .second, .val (.double (FP.dadd (FP.dadd (FP.dadd (FP.dadd FP.dconst0 (FP.l2d q2)) (FP.l2d q3)) (FP.l2d q4)) (FP.l2d q5))), .second]) rfl k) ?_
    show Done p e below s _ _ _ (T146.setTop (mkF m 140 #[.val (.int p1), .val (.long q2), .second, .val (.long q3), .second, .val (.long q4), .second, .val (.long q5), .second, .val (.int (4 : Int32)), .val (.double (FP.l2d q2)), .second, .val (.double (FP.l2d q3)), .second, .val (.double (FP.l2d q4)), .second, .val (.double (FP.l2d q5)), .second, .val (.ref b132), .val (.double (FP.dadd (FP.dadd (FP.dadd (FP.dadd FP.dconst0 (FP.l2d q2)) (FP.l2d q3)) (FP.l2d q4)) (FP.l2d q5))), .second, .val (.double (FP.dadd (FP.dadd (FP.dadd (FP.dadd FP.dconst0 (FP.l2d q2)) (FP.l2d q3)) (FP.l2d q4)) (FP.l2d q5))), .second] []))
    refine Done.step (fun t k => XS.dload X146.here hx rfl (hb hby at_140) rfl k) ?_
    show Done p e below s _ _ _ (T146.setTop (mkF m 142 #[.val (.int p1), .val (.long q2), .second, .val (.long q3), .second, .val (.long q4), .second, .val (.long q5), .second, .val (.int (4 : Int32)), .val (.double (FP.l2d q2)), .second, .val (.double (FP.l2d q3)), .second, .val (.double (FP.l2d q4)), .second, .val (.double (FP.l2d q5)), .second, .val (.ref b132), .val (.double (FP.dadd (FP.dadd (FP.dadd (FP.dadd FP.dconst0 (FP.l2d q2)) (FP.l2d q3)) (FP.l2d q4)) (FP.l2d q5))), .second, .val (.double (FP.dadd (FP.dadd (FP.dadd (FP.dadd FP.dconst0 (FP.l2d q2)) (FP.l2d q3)) (FP.l2d q4)) (FP.l2d q5))), .second] [(.double (FP.dadd (FP.dadd (FP.dadd (FP.dadd FP.dconst0 (FP.l2d q2)) (FP.l2d q3)) (FP.l2d q4)) (FP.l2d q5)))]))
    refine Done.step (fun t k => XS.dload X146.here hx rfl (hb hby at_142) rfl k) ?_
    show Done p e below s _ _ _ (T146.setTop (mkF m 144 #[.val (.int p1), .val (.long q2), .second, .val (.long q3), .second, .val (.long q4), .second, .val (.long q5), .second, .val (.int (4 : Int32)), .val (.double (FP.l2d q2)), .second, .val (.double (FP.l2d q3)), .second, .val (.double (FP.l2d q4)), .second, .val (.double (FP.l2d q5)), .second, .val (.ref b132), .val (.double (FP.dadd (FP.dadd (FP.dadd (FP.dadd FP.dconst0 (FP.l2d q2)) (FP.l2d q3)) (FP.l2d q4)) (FP.l2d q5))), .second, .val (.double (FP.dadd (FP.dadd (FP.dadd (FP.dadd FP.dconst0 (FP.l2d q2)) (FP.l2d q3)) (FP.l2d q4)) (FP.l2d q5))), .second] [(.double (FP.dadd (FP.dadd (FP.dadd (FP.dadd FP.dconst0 (FP.l2d q2)) (FP.l2d q3)) (FP.l2d q4)) (FP.l2d q5))), (.double (FP.dadd (FP.dadd (FP.dadd (FP.dadd FP.dconst0 (FP.l2d q2)) (FP.l2d q3)) (FP.l2d q4)) (FP.l2d q5)))]))
    refine Done.step (fun t k => XS.dcmpS X146.here hx rfl (hb hby at_144) rfl (dcmpV_self (Jvm.Free.Fl.dadd_out (Jvm.Free.Fl.dadd_out (Jvm.Free.Fl.dadd_out (Jvm.Free.Fl.dadd_out own_z (Jvm.Free.Fl.l2d_fin q2)) (Jvm.Free.Fl.l2d_fin q3)) (Jvm.Free.Fl.l2d_fin q4)) (Jvm.Free.Fl.l2d_fin q5)) _) k) ?_
    show Done p e below s _ _ _ (T146.setTop (mkF m 145 #[.val (.int p1), .val (.long q2), .second, .val (.long q3), .second, .val (.long q4), .second, .val (.long q5), .second, .val (.int (4 : Int32)), .val (.double (FP.l2d q2)), .second, .val (.double (FP.l2d q3)), .second, .val (.double (FP.l2d q4)), .second, .val (.double (FP.l2d q5)), .second, .val (.ref b132), .val (.double (FP.dadd (FP.dadd (FP.dadd (FP.dadd FP.dconst0 (FP.l2d q2)) (FP.l2d q3)) (FP.l2d q4)) (FP.l2d q5))), .second, .val (.double (FP.dadd (FP.dadd (FP.dadd (FP.dadd FP.dconst0 (FP.l2d q2)) (FP.l2d q3)) (FP.l2d q4)) (FP.l2d q5))), .second] [(.int (0 : Int32))]))
    refine Done.step (fun t k => XS.ifNo X146.here hx rfl (hb hby at_145) rfl ((if0 _ _).trans (teq (by decide)).2) k) ?_
    show Done p e below s _ _ _ (T146.setTop (mkF m 148 #[.val (.int p1), .val (.long q2), .second, .val (.long q3), .second, .val (.long q4), .second, .val (.long q5), .second, .val (.int (4 : Int32)), .val (.double (FP.l2d q2)), .second, .val (.double (FP.l2d q3)), .second, .val (.double (FP.l2d q4)), .second, .val (.double (FP.l2d q5)), .second, .val (.ref b132), .val (.double (FP.dadd (FP.dadd (FP.dadd (FP.dadd FP.dconst0 (FP.l2d q2)) (FP.l2d q3)) (FP.l2d q4)) (FP.l2d q5))), .second, .val (.double (FP.dadd (FP.dadd (FP.dadd (FP.dadd FP.dconst0 (FP.l2d q2)) (FP.l2d q3)) (FP.l2d q4)) (FP.l2d q5))), .second] []))
    refine Done.step (fun t k => XS.iconst X146.here hx rfl (hb hby at_148) k) ?_
    show Done p e below s _ _ _ (T146.setTop (mkF m 149 #[.val (.int p1), .val (.long q2), .second, .val (.long q3), .second, .val (.long q4), .second, .val (.long q5), .second, .val (.int (4 : Int32)), .val (.double (FP.l2d q2)), .second, .val (.double (FP.l2d q3)), .second, .val (.double (FP.l2d q4)), .second, .val (.double (FP.l2d q5)), .second, .val (.ref b132), .val (.double (FP.dadd (FP.dadd (FP.dadd (FP.dadd FP.dconst0 (FP.l2d q2)) (FP.l2d q3)) (FP.l2d q4)) (FP.l2d q5))), .second, .val (.double (FP.dadd (FP.dadd (FP.dadd (FP.dadd FP.dconst0 (FP.l2d q2)) (FP.l2d q3)) (FP.l2d q4)) (FP.l2d q5))), .second] [(.int (1 : Int32))]))
    refine Done.step (fun t k => XS.goto X146.here hx rfl (pc0 := 149) (pc' := 153) rfl (hb hby at_149) (by decide) (by decide) k) ?_
    show Done p e below s _ _ _ (T146.setTop (mkF m 153 #[.val (.int p1), .val (.long q2), .second, .val (.long q3), .second, .val (.long q4), .second, .val (.long q5), .second, .val (.int (4 : Int32)), .val (.double (FP.l2d q2)), .second, .val (.double (FP.l2d q3)), .second, .val (.double (FP.l2d q4)), .second, .val (.double (FP.l2d q5)), .second, .val (.ref b132), .val (.double (FP.dadd (FP.dadd (FP.dadd (FP.dadd FP.dconst0 (FP.l2d q2)) (FP.l2d q3)) (FP.l2d q4)) (FP.l2d q5))), .second, .val (.double (FP.dadd (FP.dadd (FP.dadd (FP.dadd FP.dconst0 (FP.l2d q2)) (FP.l2d q3)) (FP.l2d q4)) (FP.l2d q5))), .second] [(.int (1 : Int32))]))
    exact Done.narr X146 hx hlk hret (by simp) (hb hby at_153) (by decide) (by decide) ⟨rfl, N146⟩
set_option maxRecDepth 65536 in
set_option maxHeartbeats 40000000 in
theorem comes_1 {Post : Tables → Env → Array Value → State → Outcome → State → Prop} (hpost : ∀ tb e args s v u, (limb_1_1.after args s (.returned v) u = true ∧ limb_1_2.after args s (.returned v) u = true ∧ True) → FrameEnd s (.returned v) u (Jvm.fieldLocs frame_1_writes args s ++ Jvm.arrayLocs frame_1_arrays args s ++ Jvm.staticLocs frame_1_statics s) 16 128 → Post tb e args s (.returned v) u) :
    ArmFor flags0 classFile x code maxLocals ret World_1 tables_1 room_1 Calls_1 rest_1 Pre_1 Post := by
  intro l hfl _ _ p e ha hc hk s m args below hf hA hF happ hP
  obtain ⟨hcalls, hrest, hpre⟩ := hP
  obtain ⟨-, -, -, hnamed, -, -, -, hat⟩ := (Spec.applies_iff hf).mp happ
  obtain ⟨hg, hn⟩ := and_e (Cond.before_iff.mp (show (Jvm.Cond.and given_1 narrow_1).before args s = true from hpre))
  obtain ⟨hcnt, g0⟩ := and_e hg
  obtain ⟨u0, g1⟩ := and_e g0
  obtain ⟨u1, g2⟩ := and_e g1
  obtain ⟨u2, g3⟩ := and_e g2
  obtain ⟨u3, g4⟩ := and_e g3
  have u4 := g4
  obtain ⟨w0, w1, w2, w3, w4, rfl⟩ : ∃ w0 w1 w2 w3 w4 : Value, args = #[w0, w1, w2, w3, w4] := by
    have hs : args.size = 5 := by simpa [Cond.value, given_1] using hcnt
    obtain ⟨L⟩ := args
    match L, hs with
    | [w0, w1, w2, w3, w4], _ => exact ⟨w0, w1, w2, w3, w4, rfl⟩
  have hw := fun d (hd : d ∈ tables_1) => atoms_spec (ws := Jvm.Cond.code x code maxLocals ret :: tables_1) hat d (List.mem_cons_of_mem _ hd)
  have hfit : Fit s := fun {y c} hc i hi => by
    obtain ⟨ha, rfl⟩ := Array.getElem?_eq_some_iff.mp hc
    have q := List.all_eq_true.mp ((Array.all_eq_true_iff_forall_mem.mp hF) _ (Array.getElem_mem ha)) i (List.mem_range.mpr hi)
    simpa [Array.getElem?_eq_getElem hi] using q
  obtain ⟨i0, ei0⟩ := is_v u0
  obtain rfl : w0 = (.int i0) := Option.some.inj ei0
  obtain ⟨i1, ei1⟩ := isL_v u1
  obtain rfl : w1 = (.long i1) := Option.some.inj ei1
  obtain ⟨i2, ei2⟩ := isL_v u2
  obtain rfl : w2 = (.long i2) := Option.some.inj ei2
  obtain ⟨i3, ei3⟩ := isL_v u3
  obtain rfl : w3 = (.long i3) := Option.some.inj ei3
  obtain ⟨i4, ei4⟩ := isL_v u4
  obtain rfl : w4 = (.long i4) := Option.some.inj ei4
  obtain ⟨n, o, h1, h2, h3, _, L, rfl, ⟨rfl, N⟩, hq⟩ := rm0 l s _ hw tables_1 i0 i1 i2 i3 i4 s.heap s.heap.size (Nat.le_refl _) p e ha hc hk s m _ below hf ((Spec.applies_iff_loose hf).mp happ).1 ⟨rfl, State.Warmed39.refl s, rfl⟩ trivial
  refine ⟨n, _, h1, h2, h3, hpost _ _ _ _ _ _ ⟨Cond.after_iff.mpr rfl, Cond.after_iff.mpr (eq_i res_at (Term.int_eval (1)) rfl), trivial⟩ ⟨hq.1, hq.2.1, (hq.2.2.sift fun y hy => Or.inr (N y hy)).mono (by decide) (by decide)⟩⟩
theorem main_1_1 : Claimed_1_1 := comes_1 fun _ _ _ _ _ _ h hF => ⟨h.1, hF⟩
theorem main_1_2 : Claimed_1_2 := comes_1 fun _ _ _ _ _ _ h hF => ⟨h.2.1, hF⟩
end Jvm.Pilot.@@N@@
namespace Jvm.Pilot.@@N@@
open Jvm Jvm.ClassFile Sem Op Lib Jvm.Free Jvm.Stand Jvm.Pilot.@@N@@.Jvm.D
/-! MADE BY PROGRAM (witnessworld.py) out of the Statement's table words and the real class files: 11 classes; the members and pool entries that the words name. The judged class is class 1, her method 1. -/
namespace start1
open Jvm.ClassFile
def u (s : String) : CpInfo := .utf8 (stringToUtf16 s)
/-- a pool by its gaps: so many unusable entries, then the entry; so many at the end -/
def gap : Nat → List CpInfo → List CpInfo
  | 0, r => r
  | n + 1, r => .unusable :: gap n r
def poolList (es : List (Nat × CpInfo)) (last : Nat) : List CpInfo := es.foldr (fun e r => gap e.1 (e.2 :: r)) (gap last [])
def pool (es : List (Nat × CpInfo)) (last : Nat) : Array CpInfo := ⟨poolList es last⟩
def fileOf (pool : Array CpInfo) (this : Nat) (attrs : Array Attribute := #[]) (ms : Array MethodInfo := #[]) (fl : Nat := 33) (sup : Nat := 0) (ifs : Array Nat := #[]) (fds : Array FieldInfo := #[]) : ClassFile where
  minorVersion := 0
  majorVersion := 65
  constantPool := pool
  accessFlags := fl
  thisClass := this
  superClass := sup
  interfaces := ifs
  fields := fds
  methods := ms
  attributes := attrs
def plain (name : String) (sup : Option ClassId) : Class where
  name := name
  kind := .ordinary
  loader := none
  accessFlags := 33
  super := sup
  interfaces := #[]
  cf := none
  fields := #[]
  methods := #[]
  instanceTypes := #[]
  staticTypes := #[]
  resolved := #[]
  callSites := []
  init := .initialized
  statics := none
  mirror := none

def pool0 : Array CpInfo := pool [(5, u "<init>"), (0, u "()V"), (1, .class_ 10), (1, u "java/lang/Object")] 113

def k0m0 : Method := { name := "<init>", desc := "()V", sig := { parameters := [], returnType := none }, accessFlags := 1, code := none }
/-- java/lang/Object -/
def k0 : Class := { plain "java/lang/Object" none with
  accessFlags := 33
  interfaces := #[]
  cf := some (fileOf pool0 8 #[] #[{ accessFlags := 1, nameIndex := 5, descriptorIndex := 6, attributes := #[] }] 33 0 #[] #[])
  fields := #[]
  methods := #[k0m0]
  instanceTypes := #[]
  staticTypes := #[]
  resolved := Array.replicate 124 none
  statics := none }

def pool1 : Array CpInfo := pool [(2, .class_ 4), (1, u "java/lang/Object"), (0, u "<init>"), (0, u "()V"), (0, .integer 2147483647), (0, .methodref 9 10), (0, .class_ 11), (0, .nameAndType 12 13), (0, u "com/example/wardsum/wardsum/algorithm/TargetNodes"), (0, u "sum"), (0, u "([D)D"), (0, .class_ 15), (0, u "com/example/wardsum/wardsum/algorithm/TargetNodesSumPinLaw"), (2, u "law"), (0, u "(IJJJJ)Z")] 5

def k1m0 : Method := { name := "<init>", desc := "()V", sig := { parameters := [], returnType := none }, accessFlags := 2, code := none }
def k1c1 : Code := { maxStack := 4, maxLocals := 23, code := code, exceptionTable := #[], attributes := #[] }
def k1m1 : Method := { name := "law", desc := "(IJJJJ)Z", sig := { parameters := [.int, .long, .long, .long, .long], returnType := some .boolean }, accessFlags := 9, code := some k1c1 }
/-- com/example/wardsum/wardsum/algorithm/TargetNodesSumPinLaw -/
def k1 : Class := { plain "com/example/wardsum/wardsum/algorithm/TargetNodesSumPinLaw" (some 0) with
  accessFlags := 49
  interfaces := #[]
  cf := some (fileOf pool1 14 #[] #[{ accessFlags := 2, nameIndex := 5, descriptorIndex := 6, attributes := #[] }, { accessFlags := 9, nameIndex := 18, descriptorIndex := 19, attributes := #[] }] 49 2 #[] #[])
  fields := #[]
  methods := #[k1m0, k1m1]
  instanceTypes := #[]
  staticTypes := #[]
  resolved := Array.replicate 25 none
  statics := none }

def pool2 : Array CpInfo := pool [(2, .class_ 4), (1, u "java/lang/Object"), (0, u "<init>"), (0, u "()V"), (66, .class_ 75), (1, u "com/example/wardsum/wardsum/algorithm/TargetNodes"), (46, u "sum"), (0, u "([D)D"), (12, .class_ 138), (1, u "com/example/wardsum/wardsum/algorithm/TargetNodes$Step"), (2, .class_ 142), (0, u "com/example/wardsum/wardsum/algorithm/TargetNodes$KeptSetSearch"), (34, u "SAME_SUM"), (0, u "D"), (1, u "MOST_DECIMALS"), (0, u "I"), (1, u "NEAR"), (1, u "MOST_OFF_STEP"), (1, u "FEW_SUMS"), (0, u "J"), (2, u "MANY_LEFT"), (0, u "TRIAL"), (1, u "PAYS"), (20, .class_ 216), (0, u "com/example/wardsum/wardsum/algorithm/TargetNodes$DeadEnds"), (0, .class_ 218), (0, u "com/example/wardsum/wardsum/algorithm/TargetNodes$Found")] 39

def k2m0 : Method := { name := "<init>", desc := "()V", sig := { parameters := [], returnType := none }, accessFlags := 2, code := none }
def k2c1 : Code := { maxStack := 4, maxLocals := 8, code := prog_17_method_5_code, exceptionTable := #[], attributes := #[] }
def k2m1 : Method := { name := "sum", desc := "([D)D", sig := { parameters := [(.array .double)], returnType := some .double }, accessFlags := 8, code := some k2c1 }
/-- com/example/wardsum/wardsum/algorithm/TargetNodes -/
def k2 : Class := { plain "com/example/wardsum/wardsum/algorithm/TargetNodes" (some 0) with
  accessFlags := 48
  interfaces := #[]
  cf := some (fileOf pool2 73 #[.nestMembers #[215, 217, 141, 136]] #[{ accessFlags := 2, nameIndex := 5, descriptorIndex := 6, attributes := #[] }, { accessFlags := 8, nameIndex := 122, descriptorIndex := 123, attributes := #[] }] 48 2 #[] #[{ accessFlags := 26, nameIndex := 177, descriptorIndex := 178, attributes := #[] }, { accessFlags := 26, nameIndex := 180, descriptorIndex := 181, attributes := #[] }, { accessFlags := 26, nameIndex := 183, descriptorIndex := 181, attributes := #[] }, { accessFlags := 26, nameIndex := 185, descriptorIndex := 181, attributes := #[] }, { accessFlags := 26, nameIndex := 187, descriptorIndex := 188, attributes := #[] }, { accessFlags := 26, nameIndex := 191, descriptorIndex := 181, attributes := #[] }, { accessFlags := 26, nameIndex := 192, descriptorIndex := 181, attributes := #[] }, { accessFlags := 26, nameIndex := 194, descriptorIndex := 181, attributes := #[] }])
  fields := #[{ name := "SAME_SUM", type := .double, accessFlags := 26, slot := 0, constantValue := 0 }, { name := "MOST_DECIMALS", type := .int, accessFlags := 26, slot := 1, constantValue := 0 }, { name := "NEAR", type := .int, accessFlags := 26, slot := 2, constantValue := 0 }, { name := "MOST_OFF_STEP", type := .int, accessFlags := 26, slot := 3, constantValue := 0 }, { name := "FEW_SUMS", type := .long, accessFlags := 26, slot := 4, constantValue := 0 }, { name := "MANY_LEFT", type := .int, accessFlags := 26, slot := 5, constantValue := 0 }, { name := "TRIAL", type := .int, accessFlags := 26, slot := 6, constantValue := 0 }, { name := "PAYS", type := .int, accessFlags := 26, slot := 7, constantValue := 0 }]
  methods := #[k2m0, k2m1]
  instanceTypes := #[]
  staticTypes := #[.double, .int, .int, .int, .long, .int, .int, .int]
  resolved := Array.replicate 258 none
  statics := none }

def pool3 : Array CpInfo := pool [(1, u "java/lang/Cloneable"), (0, .class_ 1), (0, u "java/lang/Object"), (0, .class_ 3)] 3

/-- java/lang/Cloneable -/
def k3 : Class := { plain "java/lang/Cloneable" (some 0) with
  accessFlags := 1537
  interfaces := #[]
  cf := some (fileOf pool3 2 #[] #[] 1537 4 #[] #[])
  fields := #[]
  methods := #[]
  instanceTypes := #[]
  staticTypes := #[]
  resolved := Array.replicate 8 none
  statics := none }

def pool4 : Array CpInfo := pool [(1, u "java/io/Serializable"), (0, .class_ 1), (0, u "java/lang/Object"), (0, .class_ 3)] 3

/-- java/io/Serializable -/
def k4 : Class := { plain "java/io/Serializable" (some 0) with
  accessFlags := 1537
  interfaces := #[]
  cf := some (fileOf pool4 2 #[] #[] 1537 4 #[] #[])
  fields := #[]
  methods := #[]
  instanceTypes := #[]
  staticTypes := #[]
  resolved := Array.replicate 8 none
  statics := none }

/-- the primitive byte -/
def k5 : Class := { plain "byte" none with kind := .primitive 'B', accessFlags := 0x411 }
/-- [B -/
def k6 : Class := { plain "[B" (some 0) with kind := .array 5 .byte, interfaces := #[3, 4], accessFlags := 1041 }

/-- the primitive double -/
def k7 : Class := { plain "double" none with kind := .primitive 'D', accessFlags := 0x411 }
/-- [D -/
def k8 : Class := { plain "[D" (some 0) with kind := .array 7 .double, interfaces := #[3, 4], accessFlags := 1041 }

/-- the primitive int -/
def k9 : Class := { plain "int" none with kind := .primitive 'I', accessFlags := 0x411 }
/-- [I -/
def k10 : Class := { plain "[I" (some 0) with kind := .array 9 .int, interfaces := #[3, 4], accessFlags := 1041 }

def heap : Heap := #[]
def classes : Array Class := #[k0, k1, k2, k3, k4, k5, k6, k7, k8, k9, k10]
def interned : List (Array UInt16 × Addr) := []
def slotsUsed : Nat := 0
def theMethod : MethodId := ⟨1, 1⟩
def args0 : Array Value := #[.int 3, .long 5, .long 7, .long 9, .long 11]
def aboutOver (below : List Frame) : State where
  vm := { classes := classes, interned := interned.toArray }
  heap := heap
  slotsUsed := slotsUsed
  threads := #[{ frames := .invoking theMethod args0 :: below }]
def below0 : List Frame := [.native { method := ⟨0, 0⟩, args := #[] }]
def about1 : State := aboutOver below0
def p0 : Program := .bare "" "" ""
def e0 : Env := launch0.env 0 0 0
theorem w_frames : about1.frames = Frame.invoking theMethod args0 :: below0 := rfl
set_option maxRecDepth 65536 in
theorem w_args : argsFit about1.vm theMethod args0 = true := by decide +kernel
set_option maxRecDepth 65536 in
theorem w_heap : heapFits about1 = true := by decide +kernel
set_option maxRecDepth 65536 in
theorem w_runnable : about1.curStatus? = some .runnable := by decide +kernel
set_option maxRecDepth 65536 in
theorem w_alone : about1.alone = true := by decide +kernel
set_option maxRecDepth 65536 in
theorem w_named : about1.methodNamed? x = some theMethod := by decide +kernel
set_option maxRecDepth 65536 in
theorem w_hears : about1.hears theMethod below0 = true := by decide +kernel
set_option maxRecDepth 65536 in
theorem w_ripe : about1.ripe theMethod args0 below0 = true := by decide +kernel
theorem w_running : about1.status = .running := rfl
set_option maxRecDepth 65536 in
theorem w_room : about1.hasRoom e0.platform room_1 = true :=
  launch0.hasRoom_least _ room_1 (by decide +kernel) (by decide +kernel) (by decide +kernel) (by decide +kernel) (by decide +kernel) (by decide +kernel)
theorem allAtoms_all (ts : List Jvm.Cond) (a : Array Jvm.Value) (st : Jvm.State) : (allAtoms ts).before a st = ts.all (fun c => c.before a st) := by
  induction ts with
  | nil => rfl
  | cons c t ih =>
    show (Jvm.Cond.and c (allAtoms t)).before a st = _
    rw [Jvm.Cond.before_and, ih, List.all_cons]
def words1 : List Jvm.Cond := Jvm.Cond.code x code maxLocals ret :: tables_1
/-- a 'code' word, met by the world's own term for the bytes: nothing is compared byte by byte -/
theorem code_word {y : MethodName} {bytes : ByteArray} {mx : Nat} {rt : Option FieldType} {a : Array Value} {s : State} {m : MethodId} {meth : Method} {c : Code} (h1 : s.methodNamed? y = some m) (h2 : s.vm.method? m = some meth) (h3 : meth.code = some c) (h4 : c.code = bytes)
    (h5 : (c.maxLocals == mx && c.exceptionTable.isEmpty && decide (c.maxStack ≤ mostOperands) && decide (meth.sig.returnType = rt) && !meth.locks && decide (parseMethodDescriptor y.desc = some meth.sig)) = true) : (Jvm.Cond.code y bytes mx rt).before a s = true := by
  simp only [Bool.and_eq_true, beq_iff_eq, Bool.not_eq_true', decide_eq_true_eq] at h5
  obtain ⟨⟨⟨⟨⟨g1, g2⟩, g3⟩, g4⟩, g5⟩, g6⟩ := h5
  simp [Cond.before, Cond.holds, Cond.value, h1, h2, h3, h4, g1, g2, g3, g4, g5, g6]
def isCode : Jvm.Cond → Bool
  | .code _ _ _ _ => true
  | _ => false
theorem all_split {L : List Jvm.Cond} {P : Jvm.Cond → Bool} (h1 : L.all (fun c => isCode c || P c) = true) (h2 : ∀ c ∈ L.filter isCode, P c = true) : L.all P = true := by
  refine List.all_eq_true.mpr fun c hc => ?_
  have h := List.all_eq_true.mp h1 c hc
  rcases Bool.eq_false_or_eq_true (isCode c) with hi | hi
  · exact h2 c (List.mem_filter.mpr ⟨hc, hi⟩)
  · simpa [hi] using h
set_option maxRecDepth 65536 in
theorem w_c0 : (Jvm.Cond.code x code maxLocals ret).before args0 about1 = true := code_word (m := ⟨1, 1⟩) (meth := k1m1) (c := k1c1) (by decide +kernel) rfl rfl rfl (by decide +kernel)
set_option maxRecDepth 65536 in
theorem w_c1 : (Jvm.Cond.code ({ cls := "com/example/wardsum/wardsum/algorithm/TargetNodes", name := "sum", desc := "([D)D" } : Jvm.MethodName) prog_17_method_5_code (8 : Nat) (Option.some Jvm.ClassFile.FieldType.double)).before args0 about1 = true := code_word (m := ⟨2, 1⟩) (meth := k2m1) (c := k2c1) (by decide +kernel) rfl rfl rfl (by decide +kernel)
def codes1 : List Jvm.Cond := [Jvm.Cond.code x code maxLocals ret, Jvm.Cond.code ({ cls := "com/example/wardsum/wardsum/algorithm/TargetNodes", name := "sum", desc := "([D)D" } : Jvm.MethodName) prog_17_method_5_code (8 : Nat) (Option.some Jvm.ClassFile.FieldType.double)]
set_option maxRecDepth 65536 in
theorem codes_eq : words1.filter isCode = codes1 := rfl
theorem w_codes : ∀ c ∈ words1.filter isCode, c.before args0 about1 = true := by
  rw [codes_eq]
  intro c hc
  simp only [codes1, List.mem_cons, List.not_mem_nil, or_false] at hc
  rcases hc with rfl | rfl
  · exact w_c0
  · exact w_c1
set_option maxRecDepth 65536 in
theorem w_t1 : words1.all (fun c => isCode c || c.before args0 about1) = true := by decide +kernel
theorem w_tables : (allAtoms (Jvm.Cond.code x code maxLocals ret :: tables_1)).before args0 about1 = true := by
  rw [allAtoms_all]
  show words1.all (fun c => c.before args0 about1) = true
  refine all_split ?_ w_codes
  rw [w_t1]
set_option maxRecDepth 65536 in
theorem w_case : (Jvm.Cond.and given_1 narrow_1).before args0 about1 = true := by decide +kernel
theorem w_applies : (headSpec (Jvm.Cond.code x code maxLocals ret :: tables_1) room_1).applies x e0.platform about1 = true :=
  (Spec.applies_iff w_frames).mpr ⟨w_running, w_runnable, w_alone, w_named, w_hears, w_ripe, w_room, w_tables⟩
theorem atStart : AtStart classFile x code maxLocals ret World_1 tables_1 room_1 Calls_1 rest_1 Pre_1 launch0 p0 e0 about1 theMethod args0 below0 :=
  ⟨lists_1, trivial, launch0.admits_env _ _ _, launch0.least_env, fairChoices_fair.cas, fairChoices_fair.clock, w_frames, w_args, w_heap, w_applies, trivial, trivial, w_case⟩
end start1
theorem witness_1 : WitnessClaimed_1 := ⟨start1.p0, start1.e0, start1.about1, start1.theMethod, start1.args0, start1.below0, start1.atStart⟩
end Jvm.Pilot.@@N@@
