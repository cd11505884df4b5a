import JvmDerived
import JvmDerived.Pilot.@@N@@Statement
import JvmDerived.Pilot.@@N@@Code
set_option linter.unusedVariables false
set_option linter.unusedSimpArgs false
namespace Jvm.RoadKit
open Sem ClassFile Op Lib Jvm.Stand Jvm.Free Jvm.LawKit
section New
variable {p : Program} {l : Launch} {e : Env} {R : Room} {s : State} {m : MethodId} {args : Array Value} {below : List Frame} {meth : Method} {c : Code} {T : State} {locs : List Loc} {cells slots : Nat}
theorem retI (X : Stand p l e R s m args below meth c T locs cells slots) (hx : p.tables.exec = Jvm.exec) {pc : Nat} {Ls : Array Slot} {z : Int32} {rest : List Value} (hret : meth.sig.returnType = some .int) (hd : decode c.code pc = .ok (.ireturn, 1)) {fs : List Frame}
    (hl : ∀ (f : JFrame) (acts : List Action), f.method = m → f.locked = none → f.entered = [] → (doReturn e (T.setTop f) acts (some (.int z))).1 = T.setFrames fs) : Steps p.tables e below (T.setTop (mkF m pc Ls (.int z :: rest))) (T.setFrames fs) := by
  have hm' : T.vm.method? m = some meth := X.method'
  have hn : narrow .int (.int z) = .int z := rfl
  show Steps p.tables e below (T.setTop { method := m, pc := pc, locals := Ls, stack := _ :: rest, locked := none }) _
  jvm_step X.here [X.here.top, hx, hd, hm', hret, hn]
  first | (intro acts; rw [hl _ acts rfl rfl rfl]) | rw [hl _ _ rfl rfl rfl]
  exact Steps.refl _
end New
end Jvm.RoadKit
namespace Jvm.Pilot.@@N@@
open Jvm Jvm.ClassFile Sem Op Lib Jvm.Free Jvm.Stand Jvm.LawKit Jvm.RoadKit Bundle Jvm.Pilot.@@N@@.Jvm.D
section OwnKit
/-- the rest of a body ends well: from the state U on it comes to its end, what it returns and leaves is as Q says -/
def Done (p : Program) (e : Env) (below : List Frame) (s : State) (Q : Option Value → Heap → List Loc → Prop) (C S : Nat) (U : State) : Prop :=
  ∃ s₂ o, Steps p.tables e below U s₂ ∧ s₂.status = .running ∧ Ended s₂ below o ∧ ∃ v L, o = .returned v ∧ Q v s₂.heap L ∧ FrameEnd s o s₂ L C S
variable {p : Program} {l : Launch} {e : Env} {R : Room} {s : State} {m : MethodId} {args : Array Value} {below : List Frame} {meth : Method} {c : Code} {T U U' : State} {locs : List Loc} {cells slots C S : Nat} {Q : Option Value → Heap → List Loc → Prop}
theorem Done.step (h : ∀ t, Steps p.tables e below U' t → Steps p.tables e below U t) (d : Done p e below s Q C S U') : Done p e below s Q C S U := by
  obtain ⟨s₂, o, h1, r⟩ := d
  exact ⟨s₂, o, h _ h1, r⟩
theorem Done.far (h : Steps p.tables e below U U') (d : Done p e below s Q C S U') : Done p e below s Q C S U := by
  obtain ⟨s₂, o, h1, r⟩ := d
  exact ⟨s₂, o, h.trans h1, r⟩
theorem Done.mono {Q' : Option Value → Heap → List Loc → Prop} (d : Done p e below s Q C S U) (h : ∀ v h L, Q v h L → Q' v h L) : Done p e below s Q' C S U := by
  obtain ⟨s₂, o, h1, h2, h3, v, L, h4, h5, h6⟩ := d
  exact ⟨s₂, o, h1, h2, h3, v, L, h4, h _ _ _ h5, h6⟩
theorem Done.int (X : Stand p l e R s m args below meth c T locs cells slots) (hx : p.tables.exec = Jvm.exec) (hlk : meth.locks = false) (hret : meth.sig.returnType = some .int) {pc : Nat} {Ls : Array Slot} {z : Int32} {rest : List Value} (hd : decode c.code pc = .ok (.ireturn, 1)) (hc : cells ≤ C) (hs : slots ≤ S)
    (hq : Q (some (.int z)) T.heap locs) : Done p e below s Q C S (T.setTop (mkF m pc Ls (.int z :: rest))) := by
  obtain ⟨fs, hr, hrun, hended, hW, hsame⟩ := X.leave (v := some (.int z)) (fun h => by rw [hret] at h; cases h)
  exact ⟨_, _, retI X hx hret hd hr, hrun, hended, _, _, rfl, hq, ⟨_, rfl⟩, hW, hsame.mono hc hs⟩
theorem Done.narr (X : Stand p l e R s m args below meth c T locs cells slots) (hx : p.tables.exec = Jvm.exec) (hlk : meth.locks = false) {t : FieldType} (hret : meth.sig.returnType = some t) (ht : t = .boolean ∨ t = .byte ∨ t = .char ∨ t = .short) {pc : Nat} {Ls : Array Slot} {z : Int32} {rest : List Value} (hd : decode c.code pc = .ok (.ireturn, 1)) (hc : cells ≤ C) (hs : slots ≤ S)
    (hq : Q (some (.int (nar t z))) T.heap locs) : Done p e below s Q C S (T.setTop (mkF m pc Ls (.int z :: rest))) := by
  obtain ⟨fs, hr, hrun, hended, hW, hsame⟩ := X.leave (v := some (.int (nar t z))) (fun h => by rw [hret] at h; cases h)
  exact ⟨_, _, retN X hx hret ht hd hr, hrun, hended, _, _, rfl, hq, ⟨_, rfl⟩, hW, hsame.mono hc hs⟩
theorem Done.long (X : Stand p l e R s m args below meth c T locs cells slots) (hx : p.tables.exec = Jvm.exec) (hlk : meth.locks = false) (hret : meth.sig.returnType = some .long) {pc : Nat} {Ls : Array Slot} {z : Int64} {rest : List Value} (hd : decode c.code pc = .ok (.lreturn, 1)) (hc : cells ≤ C) (hs : slots ≤ S)
    (hq : Q (some (.long z)) T.heap locs) : Done p e below s Q C S (T.setTop (mkF m pc Ls (.long z :: rest))) := by
  obtain ⟨fs, hr, hrun, hended, hW, hsame⟩ := X.leave (v := some (.long z)) (fun h => by rw [hret] at h; cases h)
  exact ⟨_, _, retOut X hx hret rfl (Or.inr (Or.inl ⟨rfl, rfl, z, rfl⟩)) hd hr, hrun, hended, _, _, rfl, hq, ⟨_, rfl⟩, hW, hsame.mono hc hs⟩
theorem Done.ref (X : Stand p l e R s m args below meth c T locs cells slots) (hx : p.tables.exec = Jvm.exec) (hlk : meth.locks = false) {t : FieldType} (hret : meth.sig.returnType = some t) (ht : t.isReference = true) {pc : Nat} {Ls : Array Slot} {w : Value} {rest : List Value} (hw : w.isRef = true) (hn : narrow t w = w) (hd : decode c.code pc = .ok (.areturn, 1)) (hc : cells ≤ C) (hs : slots ≤ S)
    (hq : Q (some w) T.heap locs) : Done p e below s Q C S (T.setTop (mkF m pc Ls (w :: rest))) := by
  obtain ⟨fs, hr, hrun, hended, hW, hsame⟩ := X.leave (v := some w) (fun h => by rw [hret] at h; cases h)
  exact ⟨_, _, retOut X hx hret hn (Or.inr (Or.inr (Or.inr (Or.inr ⟨rfl, ht, hw⟩)))) hd hr, hrun, hended, _, _, rfl, hq, ⟨_, rfl⟩, hW, hsame.mono hc hs⟩
theorem Done.void (X : Stand p l e R s m args below meth c T locs cells slots) (hx : p.tables.exec = Jvm.exec) (hlk : meth.locks = false) (hret : meth.sig.returnType = none) {pc : Nat} {Ls : Array Slot} (hd : decode c.code pc = .ok (.return_, 1)) (hc : cells ≤ C) (hs : slots ≤ S)
    (hq : Q none T.heap locs) : Done p e below s Q C S (T.setTop (mkF m pc Ls [])) := by
  obtain ⟨fs, hr, hrun, hended, hW, hsame⟩ := X.leave (v := none) (fun _ => rfl)
  exact ⟨_, _, X.returnOut hx hret hd hr, hrun, hended, _, _, rfl, hq, ⟨_, rfl⟩, hW, hsame.mono hc hs⟩
variable {Z : State} {h h' h0 : Heap} {a b : Addr} {ty : FieldType} {vs : List Value} {sl : Nat} {v x : Value} {ws : List Addr} {j : Int32} {g : JFrame} {rest : List Value}
/-- an array whose slots are just the list vs -/
def Ax (Z : State) (h : Heap) (a : Addr) (ty : FieldType) (vs : List Value) : Prop := ∃ c : Cell, Arr Z h a c ty ∧ c.slots = vs.toArray
theorem Ax.lt (F : Ax Z h a ty vs) : a < h.size := by obtain ⟨c, A, -⟩ := F; exact A.lt
theorem Ax.ext (F : Ax Z h a ty vs) (E : Ext h h') : Ax Z h' a ty vs := by obtain ⟨c, A, r⟩ := F; exact ⟨c, A.ext E, r⟩
theorem Ax.other (F : Ax Z h b ty vs) (W : Wr h h' a sl v) (q : b ≠ a) : Ax Z h' b ty vs := by obtain ⟨c, A, r⟩ := F; exact ⟨c, A.other W q, r⟩
theorem Ax.keep (F : Ax Z h a ty vs) (K : Keep h h' ws) (q : a ∉ ws) : Ax Z h' a ty vs := by obtain ⟨c, A, r⟩ := F; exact ⟨c, ⟨K.2.1 a c A.1 q, A.2⟩, r⟩
theorem own_stakeep {C n d : String} (F : Sta Z h C n d v) (K : Keep h h' ws) (q : ∀ y ∈ ws, ∃ cell : Cell, h[y]? = some cell ∧ cell.vm.isStatics = false) : Sta Z h' C n d v := by
  obtain ⟨cf, i, k, f, st, cell, h1, h2, h3, h4, h5, h6, h7⟩ := F
  refine ⟨cf, i, k, f, st, cell, h1, h2, h3, h4, K.2.1 st cell h5 (fun z => ?_), h6, h7⟩
  obtain ⟨c', g1, g2⟩ := q st z
  cases h5.symm.trans g1; rw [g2] at h6; cases h6
theorem own_unst {C : String} (F : Exa Z h a C) : ∃ cell : Cell, h[a]? = some cell ∧ cell.vm.isStatics = false := by
  obtain ⟨cell, k, h1, -, -, h4, -⟩ := F; exact ⟨cell, h1, h4⟩
theorem fld_long {t : Term} {D n d : String} {k : Int64} {y : Addr} {av : Array Value} (hh : (Jvm.Cond.eq (Term.field t D n d) (Term.long k)).value av Z none Z [] = some true) (ht : t.eval av Z none [] Z = some (.ref y)) : Fld Z Z.heap y D n d (.long k) := by
  obtain ⟨u, w, e1, e2, k1, k2⟩ := cmp_v (Or.inl hh)
  have e3 : (Term.long k).eval av Z none [] Z = some (.long k) := rfl
  rw [e3] at e2; cases e2
  obtain ⟨z, rfl⟩ := k2
  have q := gotT (eq_L e1 e3) hh
  subst q
  rw [fld_at ht] at e1
  exact Fld.start e1
theorem fld_int {t : Term} {D n d : String} {k : Int32} {y : Addr} {av : Array Value} (hh : (Jvm.Cond.eq (Term.field t D n d) (Term.int k)).value av Z none Z [] = some true) (ht : t.eval av Z none [] Z = some (.ref y)) : Fld Z Z.heap y D n d (.int k) := by
  obtain ⟨u, w, e1, e2, k1, k2⟩ := cmp_v (Or.inl hh)
  have e3 : (Term.int k).eval av Z none [] Z = some (.int k) := rfl
  rw [e3] at e2; cases e2
  obtain ⟨z, rfl⟩ := k2
  have q : z = k := by simpa [Jvm.Cond.value, e1, e3] using hh
  subst q
  rw [fld_at ht] at e1
  exact Fld.start e1
theorem Ax.set (F : Ax Z h a ty vs) (W : Wr h h' a sl v) : Ax Z h' a ty (vs.set sl v) := by
  obtain ⟨c, A, r⟩ := F
  exact ⟨_, A.same W, by rw [show (c.setSlot sl v).slots = c.slots.setIfInBounds sl v from rfl, r, List.setIfInBounds_toArray]⟩
theorem Ax.new {k : ClassId} {n : Int32} {i : Nat} (A : Arr Z h a (newA k ty n) ty) (hi : n.toNatClampNeg = i) : Ax Z h a ty (List.replicate i (defaultValue ty)) :=
  ⟨_, A, by rw [show (newA k ty n).slots = Array.replicate n.toNatClampNeg (defaultValue ty) from rfl, hi, List.toArray_replicate]⟩
theorem Ax.size {c : Cell} (r : c.slots = vs.toArray) : c.slots.size = vs.length := by rw [r, List.size_toArray]
theorem Ax.inb {c : Cell} (r : c.slots = vs.toArray) (hj : ¬ j < 0) (hl : j.toNatClampNeg < vs.length) : ¬ (j < 0 ∨ c.slots.size ≤ j.toNatClampNeg) := fun q => q.elim hj fun u => by
  rw [Ax.size r] at u; exact absurd hl (Nat.not_lt.mpr u)
theorem Ax.get {c : Cell} (r : c.slots = vs.toArray) (hat : vs[j.toNatClampNeg]? = some x) : c.slots[j.toNatClampNeg]? = some x := by rw [r, List.getElem?_toArray]; exact hat
theorem Ax.lens (hat : vs[j.toNatClampNeg]? = some x) : j.toNatClampNeg < vs.length := (List.getElem?_eq_some_iff.mp hat).1
theorem ldI (X : Stand p l e R s m args below meth c T locs cells slots) (hx : p.tables.exec = Jvm.exec) (hZ : Z.Warmed39 s.vm) (eT : T.heap = h) (F : Ax Z h a .int vs) (hj : ¬ j < 0) (hat : vs[j.toNatClampNeg]? = some x) (hg : g.method = m) (hs : g.stack = .int j :: .ref a :: rest) (hd : decode c.code g.pc = .ok (.iaload, 1)) :
    ∀ target, Steps p.tables e below (T.setTop { g with pc := g.pc + 1, stack := x :: rest }) target → Steps p.tables e below (T.setTop g) target := by
  obtain ⟨cl, A, r⟩ := F
  exact X.iaload hx (by rw [eT]; exact A.1) (State.isArrayOf_alike hZ.alike A.2.1) A.2.2 (Ax.inb r hj (Ax.lens hat)) (Ax.get r hat) hg hs hd
theorem ldJ (X : Stand p l e R s m args below meth c T locs cells slots) (hx : p.tables.exec = Jvm.exec) (hZ : Z.Warmed39 s.vm) (eT : T.heap = h) (F : Ax Z h a .long vs) (hj : ¬ j < 0) (hat : vs[j.toNatClampNeg]? = some x) (hg : g.method = m) (hs : g.stack = .int j :: .ref a :: rest) (hd : decode c.code g.pc = .ok (.laload, 1)) :
    ∀ target, Steps p.tables e below (T.setTop { g with pc := g.pc + 1, stack := x :: rest }) target → Steps p.tables e below (T.setTop g) target := by
  obtain ⟨cl, A, r⟩ := F
  exact X.laload hx (by rw [eT]; exact A.1) (State.isArrayOf_alike hZ.alike A.2.1) A.2.2 (Ax.inb r hj (Ax.lens hat)) (Ax.get r hat) hg hs hd
theorem ldB (X : Stand p l e R s m args below meth c T locs cells slots) (hx : p.tables.exec = Jvm.exec) (hZ : Z.Warmed39 s.vm) (eT : T.heap = h) (F : Ax Z h a .byte vs) (hj : ¬ j < 0) (hat : vs[j.toNatClampNeg]? = some x) (hg : g.method = m) (hs : g.stack = .int j :: .ref a :: rest) (hd : decode c.code g.pc = .ok (.baload, 1)) :
    ∀ target, Steps p.tables e below (T.setTop { g with pc := g.pc + 1, stack := x :: rest }) target → Steps p.tables e below (T.setTop g) target := by
  obtain ⟨cl, A, r⟩ := F
  exact X.baloadBytes hx (by rw [eT]; exact A.1) (State.isArrayOf_alike hZ.alike A.2.1) A.2.2 (Ax.inb r hj (Ax.lens hat)) (Ax.get r hat) hg hs hd
theorem ldZ (X : Stand p l e R s m args below meth c T locs cells slots) (hx : p.tables.exec = Jvm.exec) (hZ : Z.Warmed39 s.vm) (eT : T.heap = h) (F : Ax Z h a .boolean vs) (hj : ¬ j < 0) (hat : vs[j.toNatClampNeg]? = some x) (hg : g.method = m) (hs : g.stack = .int j :: .ref a :: rest) (hd : decode c.code g.pc = .ok (.baload, 1)) :
    ∀ target, Steps p.tables e below (T.setTop { g with pc := g.pc + 1, stack := x :: rest }) target → Steps p.tables e below (T.setTop g) target := by
  obtain ⟨cl, A, r⟩ := F
  exact X.baloadBooleans hx (by rw [eT]; exact A.1) (State.isArrayOf_alike hZ.alike A.2.1) A.2.2 (Ax.inb r hj (Ax.lens hat)) (Ax.get r hat) hg hs hd
theorem lenA (X : Stand p l e R s m args below meth c T locs cells slots) (hx : p.tables.exec = Jvm.exec) (hZ : Z.Warmed39 s.vm) (eT : T.heap = h) (F : Ax Z h a ty vs) {n : Int32} (hn : vs.length.toInt32 = n) (hg : g.method = m) (hs : g.stack = .ref a :: rest) (hd : decode c.code g.pc = .ok (.arraylength, 1)) :
    ∀ target, Steps p.tables e below (T.setTop { g with pc := g.pc + 1, stack := .int n :: rest }) target → Steps p.tables e below (T.setTop g) target := by
  obtain ⟨cl, A, r⟩ := F
  intro target k
  refine X.arraylength hx (by rw [eT]; exact A.1) (State.isArrayOf_alike hZ.alike A.2.1) hg hs hd target ?_
  rw [Ax.size r, hn]; exact k
theorem stoI (X : Stand p l e R s m args below meth c T locs cells slots) (hx : p.tables.exec = Jvm.exec) (hZ : Z.Warmed39 s.vm) (eT : T.heap = h) (F : Ax Z h a .int vs) {y : Int32} (hj : ¬ j < 0) {i : Nat} (hi : j.toNatClampNeg = i) (hl : i < vs.length) (hg : g.method = m) (hs : g.stack = .int y :: .int j :: .ref a :: rest) (hd : decode c.code g.pc = .ok (.iastore, 1)) :
    ∃ T' h', Stand p l e R s m args below meth c T' (locs ++ [⟨a, j.toNatClampNeg⟩]) cells slots ∧ T'.heap = h' ∧ Wr h h' a j.toNatClampNeg (.int y) ∧ Ax Z h' a .int (vs.set i (.int y)) ∧ ∀ target, Steps p.tables e below (T'.setTop { g with pc := g.pc + 1, stack := rest }) target → Steps p.tables e below (T.setTop g) target := by
  obtain ⟨cl, A, r⟩ := F
  obtain ⟨T', h', X', e', W, st⟩ := stI X hx hZ eT A (Ax.inb r hj (by rw [hi]; exact hl)) hg hs hd
  exact ⟨T', h', X', e', W, hi ▸ Ax.set ⟨cl, A, r⟩ W, st⟩
theorem stoJ (X : Stand p l e R s m args below meth c T locs cells slots) (hx : p.tables.exec = Jvm.exec) (hZ : Z.Warmed39 s.vm) (eT : T.heap = h) (F : Ax Z h a .long vs) {y : Int64} (hj : ¬ j < 0) {i : Nat} (hi : j.toNatClampNeg = i) (hl : i < vs.length) (hg : g.method = m) (hs : g.stack = .long y :: .int j :: .ref a :: rest) (hd : decode c.code g.pc = .ok (.lastore, 1)) :
    ∃ T' h', Stand p l e R s m args below meth c T' (locs ++ [⟨a, j.toNatClampNeg⟩]) cells slots ∧ T'.heap = h' ∧ Wr h h' a j.toNatClampNeg (.long y) ∧ Ax Z h' a .long (vs.set i (.long y)) ∧ ∀ target, Steps p.tables e below (T'.setTop { g with pc := g.pc + 1, stack := rest }) target → Steps p.tables e below (T.setTop g) target := by
  obtain ⟨cl, A, r⟩ := F
  obtain ⟨T', h', X', e', W, st⟩ := stJ X hx hZ eT A (Ax.inb r hj (by rw [hi]; exact hl)) hg hs hd
  exact ⟨T', h', X', e', W, hi ▸ Ax.set ⟨cl, A, r⟩ W, st⟩
theorem stoB (X : Stand p l e R s m args below meth c T locs cells slots) (hx : p.tables.exec = Jvm.exec) (hZ : Z.Warmed39 s.vm) (eT : T.heap = h) (F : Ax Z h a .byte vs) {y : Int32} (hj : ¬ j < 0) {i : Nat} (hi : j.toNatClampNeg = i) (hl : i < vs.length) (hg : g.method = m) (hs : g.stack = .int y :: .int j :: .ref a :: rest) (hd : decode c.code g.pc = .ok (.bastore, 1)) :
    ∃ T' h', Stand p l e R s m args below meth c T' (locs ++ [⟨a, j.toNatClampNeg⟩]) cells slots ∧ T'.heap = h' ∧ Wr h h' a j.toNatClampNeg (.int (nar .byte y)) ∧ Ax Z h' a .byte (vs.set i (.int (nar .byte y))) ∧ ∀ target, Steps p.tables e below (T'.setTop { g with pc := g.pc + 1, stack := rest }) target → Steps p.tables e below (T.setTop g) target := by
  obtain ⟨cl, A, r⟩ := F
  obtain ⟨T', h', X', e', W, st⟩ := stB X hx hZ eT A (Ax.inb r hj (by rw [hi]; exact hl)) hg hs hd
  exact ⟨T', h', X', e', W, hi ▸ Ax.set ⟨cl, A, r⟩ W, st⟩
theorem stoZ (X : Stand p l e R s m args below meth c T locs cells slots) (hx : p.tables.exec = Jvm.exec) (hZ : Z.Warmed39 s.vm) (eT : T.heap = h) (F : Ax Z h a .boolean vs) {y : Int32} (hj : ¬ j < 0) {i : Nat} (hi : j.toNatClampNeg = i) (hl : i < vs.length) (hg : g.method = m) (hs : g.stack = .int y :: .int j :: .ref a :: rest) (hd : decode c.code g.pc = .ok (.bastore, 1)) :
    ∃ T' h', Stand p l e R s m args below meth c T' (locs ++ [⟨a, j.toNatClampNeg⟩]) cells slots ∧ T'.heap = h' ∧ Wr h h' a j.toNatClampNeg (.int (nar .boolean y)) ∧ Ax Z h' a .boolean (vs.set i (.int (nar .boolean y))) ∧ ∀ target, Steps p.tables e below (T'.setTop { g with pc := g.pc + 1, stack := rest }) target → Steps p.tables e below (T.setTop g) target := by
  obtain ⟨cl, A, r⟩ := F
  obtain ⟨T', h', X', e', W, st⟩ := stZ X hx hZ eT A (Ax.inb r hj (by rw [hi]; exact hl)) hg hs hd
  exact ⟨T', h', X', e', W, hi ▸ Ax.set ⟨cl, A, r⟩ W, st⟩
theorem cloX (X : Stand p l e R s m args below meth c T locs cells slots) (hx : p.tables.exec = Jvm.exec) (hZ : Z.Warmed39 s.vm) {a0 : Array Value} {own ad : String} {index : Nat} (hown : s.vm.findClass own = some m.cls)
    (w1 : (Cond.methodLink own index ⟨ad, "clone", "()Ljava/lang/Object;"⟩).before a0 Z = true) (w2 : (Cond.sameMethod ad "java/lang/Object" "clone" "()Ljava/lang/Object;").before a0 Z = true) (w3 : (Cond.native ⟨"java/lang/Object", "clone", "()Ljava/lang/Object;"⟩).before a0 Z = true)
    (w4 : (Cond.instanceMethod ⟨"java/lang/Object", "clone", "()Ljava/lang/Object;"⟩).before a0 Z = true) (w5 : (Cond.selects ad ⟨ad, "clone", "()Ljava/lang/Object;"⟩ ⟨"java/lang/Object", "clone", "()Ljava/lang/Object;"⟩).before a0 Z = true) (w6 : (Cond.castable ad "java/lang/Cloneable").before a0 Z = true)
    (eT : T.heap = h) (F : Ax Z h a ty vs) (E : Exa Z h a ad) (G : ∀ v ∈ vs, fits ty v = true) (hg : g.method = m) (hsize : g.locals.size = c.maxLocals) (hs : g.stack = .ref a :: rest) (hd : decode c.code g.pc = .ok (.invokevirtual index, 3))
    (hf : 1 ≤ R.frames) {W cap : Nat} (hW : 2 * g.monitorRoom + (rest.map fun v => v.category).sum ≤ W) (hl : W + 14 ≤ R.locals) (hcap : vs.length ≤ cap) (hc : cells + 1 ≤ R.cells) (hsl : slots + cap ≤ R.slots) :
    ∃ T' h', Stand p l e R s m args below meth c T' locs (cells + 1) (slots + cap) ∧ T'.heap = h' ∧ Ext h h' ∧ Ax Z h' h.size ty vs ∧ Exa Z h' h.size ad ∧
      ∀ target, Steps p.tables e below (T'.setTop { g with pc := g.pc + 3, stack := .ref h.size :: rest }) target → Steps p.tables e below (T.setTop g) target := by
  obtain ⟨cl, A, r⟩ := F
  have FC : FitC Z cl := fitC_of A fun i hi v hv => by
    rw [r, List.getElem?_toArray] at hv
    exact G v (List.mem_of_getElem? hv)
  obtain ⟨T', h', X', e', ex, A', E', st⟩ := cloneA X hx hZ hown w1 w2 w3 w4 w5 w6 eT A E FC hg hsize hs hd hf hW hl (by rw [Ax.size r]; exact hcap) hc hsl
  exact ⟨T', h', X', e', ex, ⟨cloneOf cl, A', r⟩, E', st⟩
end OwnKit
theorem pd_0 : parseMethodDescriptor "()V" = some ⟨[], none⟩ := by decide +kernel
theorem pd_1 : parseMethodDescriptor "(II)V" = some ⟨[.int, .int], none⟩ := by decide +kernel
theorem pd_2 : parseMethodDescriptor "(Lcom/example/wardsum/wardsum/model/Cell;)J" = some ⟨[(.object "com/example/wardsum/wardsum/model/Cell")], some .long⟩ := by decide +kernel
theorem d2_0 : decode jdk_30_method_1_code 0 = .ok (.aload_n 0, 1) := by decide +kernel
theorem d2_1 : decode jdk_30_method_1_code 1 = .ok (.invokespecial 1, 3) := by decide +kernel
theorem d2_4 : decode jdk_30_method_1_code 4 = .ok (.return_, 1) := by decide +kernel
theorem pn_2 : plainName "java/lang/Record" = true := by first | (simp [plainName, overriddenIn]; done) | decide +kernel
theorem ef_2 (m : MethodId) (a1 : Addr) : entryFrame m #[(.ref a1)] 1 = mkF m 0 #[.val (.ref a1)] [] := by first | (simp [entryFrame, mkF, argsToLocals, Value.category]; done) | rfl
def Qrm2 (Z : State) (a1 : Addr) (h0 : Heap) (n0 : Nat) : Option Value → Heap → List Loc → Prop := fun v h L => v = none ∧ Fr n0 L ∧ h = h0
set_option maxRecDepth 65536 in
set_option maxHeartbeats 40000000 in
theorem rm2 (l : Launch) (Z : State) (a0 : Array Value) (hw : ∀ d ∈ tables_1, d.before a0 Z = true) (ws : List Jvm.Cond) (a1 : Addr) (h0 : Heap) (n0 : Nat) (Z0 : n0 ≤ h0.size) :
    MetFree l (⟨"java/lang/Record", "<init>", "()V"⟩ : MethodName) (head1 (Jvm.Cond.code (⟨"java/lang/Record", "<init>", "()V"⟩ : MethodName) jdk_30_method_1_code 1 none :: ws) ({ frames := 1, cells := 0, slots := 0, locals := 12 } : Room)) (fun a U => a = #[(.ref a1)] ∧ Z.Warmed39 U.vm ∧ U.heap = h0) (fun _ _ _ _ _ => True) (fun _ U o U' => ∃ v L, o = .returned v ∧ Qrm2 Z a1 h0 n0 v U'.heap L ∧ FrameEnd U o U' L ({ frames := 1, cells := 0, slots := 0, locals := 12 } : Room).cells ({ frames := 1, cells := 0, slots := 0, locals := 12 } : Room).slots) := by
  refine MetFree.of_bodySF (plainFor_of_name pn_2) hisR ?_
  intro p e s m args below meth c s₁ Bd hml0 hP hK
  obtain ⟨rfl, hZ, hh⟩ := hP
  have hx := Bd.exec
  have hby := Bd.bytes
  have hml : c.maxLocals = 1 := hml0
  have hown : s.vm.findClass "java/lang/Record" = some m.cls := findClass_of_methodNamed Bd.named
  have hnm := (name_of_methodNamed Bd.named Bd.method).1
  have hlk : meth.locks = false := BodyLoose.notSynchronized Bd
  have hret := Bd.returns
  have X0 : Stand p l e ({ frames := 1, cells := 0, slots := 0, locals := 12 } : Room) s m #[(.ref a1)] below meth c s₁ [] 0 0 := Stand.of_body Bd
  have e0 : s₁.heap = h0 := by rw [← hh, Bd.state]; rfl
  have N0 := Fr.nil n0
  show Done p e below s (Qrm2 Z a1 h0 n0) ({ frames := 1, cells := 0, slots := 0, locals := 12 } : Room).cells ({ frames := 1, cells := 0, slots := 0, locals := 12 } : Room).slots (s₁.setTop (entryFrame m #[(.ref a1)] 1))
  refine Done.step (fun t k => castTop (ef_2 m a1) k) ?_
  show Done p e below s _ _ _ (s₁.setTop (mkF m 0 #[.val (.ref a1)] []))
  refine Done.step (fun t k => XS.aloadN X0.here hx rfl (hb hby d2_0) rfl rfl k) ?_
  show Done p e below s _ _ _ (s₁.setTop (mkF m 1 #[.val (.ref a1)] [(.ref a1)]))
  obtain ⟨T1, X1, e1, st1⟩ := initO X0 hx hZ hown (hw _ (List.mem_of_getElem? (i := 12) rfl)) (hw _ (List.mem_of_getElem? (i := 13) rfl)) (hw _ (List.mem_of_getElem? (i := 14) rfl)) e0 (g := (mkF m 1 #[.val (.ref a1)] [(.ref a1)])) rfl (by rw [hml]; rfl) rfl (hb hby d2_1) (by decide) (W := 0) (by show 2 * 0 + _ ≤ _; exact Nat.le_of_eq rfl) (by decide)
  refine Done.step st1 ?_
  show Done p e below s _ _ _ (T1.setTop (mkF m 4 #[.val (.ref a1)] []))
  exact Done.void X1 hx hlk hret (hb hby d2_4) (by decide) (by decide) ⟨rfl, N0, e1⟩
theorem d1_0 : decode prog_42_method_1_code 0 = .ok (.aload_n 0, 1) := by decide +kernel
theorem d1_1 : decode prog_42_method_1_code 1 = .ok (.invokespecial 1, 3) := by decide +kernel
theorem d1_4 : decode prog_42_method_1_code 4 = .ok (.aload_n 0, 1) := by decide +kernel
theorem d1_5 : decode prog_42_method_1_code 5 = .ok (.iload_n 1, 1) := by decide +kernel
theorem d1_6 : decode prog_42_method_1_code 6 = .ok (.putfield 7, 3) := by decide +kernel
theorem d1_9 : decode prog_42_method_1_code 9 = .ok (.aload_n 0, 1) := by decide +kernel
theorem d1_10 : decode prog_42_method_1_code 10 = .ok (.iload_n 2, 1) := by decide +kernel
theorem d1_11 : decode prog_42_method_1_code 11 = .ok (.putfield 13, 3) := by decide +kernel
theorem d1_14 : decode prog_42_method_1_code 14 = .ok (.return_, 1) := by decide +kernel
theorem pn_1 : plainName "com/example/wardsum/wardsum/model/Cell" = true := by first | (simp [plainName, overriddenIn]; done) | decide +kernel
theorem ef_1 (m : MethodId) (a1 : Addr) (p2 : Int32) (p3 : Int32) : entryFrame m #[(.ref a1), (.int p2), (.int p3)] 3 = mkF m 0 #[.val (.ref a1), .val (.int p2), .val (.int p3)] [] := by first | (simp [entryFrame, mkF, argsToLocals, Value.category]; done) | rfl
def Qrm1 (Z : State) (a1 : Addr) (p2 : Int32) (p3 : Int32) (h0 : Heap) (n0 : Nat) : Option Value → Heap → List Loc → Prop := fun v h L => v = none ∧ Fr n0 L ∧ Keep h0 h [a1] ∧ Exa Z h a1 "com/example/wardsum/wardsum/model/Cell" ∧ Fld Z h a1 "com/example/wardsum/wardsum/model/Cell" "x" "I" (.int p2) ∧ Fld Z h a1 "com/example/wardsum/wardsum/model/Cell" "y" "I" (.int p3)
set_option maxRecDepth 65536 in
set_option maxHeartbeats 40000000 in
theorem rm1 (l : Launch) (Z : State) (a0 : Array Value) (hw : ∀ d ∈ tables_1, d.before a0 Z = true) (ws : List Jvm.Cond) (a1 : Addr) (p2 : Int32) (p3 : Int32) (h0 : Heap) (n0 : Nat) (Z0 : n0 ≤ h0.size) (E1 : Exa Z h0 a1 "com/example/wardsum/wardsum/model/Cell") (F_x : Fld Z h0 a1 "com/example/wardsum/wardsum/model/Cell" "x" "I" (.int (0 : Int32))) (F_y : Fld Z h0 a1 "com/example/wardsum/wardsum/model/Cell" "y" "I" (.int (0 : Int32))) (g1 : n0 ≤ a1) :
    MetFree l (⟨"com/example/wardsum/wardsum/model/Cell", "<init>", "(II)V"⟩ : MethodName) (head1 (Jvm.Cond.code (⟨"com/example/wardsum/wardsum/model/Cell", "<init>", "(II)V"⟩ : MethodName) prog_42_method_1_code 3 none :: ws) ({ frames := 2, cells := 0, slots := 0, locals := 24 } : Room)) (fun a U => a = #[(.ref a1), (.int p2), (.int p3)] ∧ Z.Warmed39 U.vm ∧ U.heap = h0) (fun _ _ _ _ _ => True) (fun _ U o U' => ∃ v L, o = .returned v ∧ Qrm1 Z a1 p2 p3 h0 n0 v U'.heap L ∧ FrameEnd U o U' L ({ frames := 2, cells := 0, slots := 0, locals := 24 } : Room).cells ({ frames := 2, cells := 0, slots := 0, locals := 24 } : Room).slots) := by
  refine MetFree.of_bodySF (plainFor_of_name pn_1) hisR ?_
  intro p e s m args below meth c s₁ Bd hml0 hP hK
  obtain ⟨rfl, hZ, hh⟩ := hP
  have hx := Bd.exec
  have hby := Bd.bytes
  have hml : c.maxLocals = 3 := hml0
  have hown : s.vm.findClass "com/example/wardsum/wardsum/model/Cell" = some m.cls := findClass_of_methodNamed Bd.named
  have hnm := (name_of_methodNamed Bd.named Bd.method).1
  have hlk : meth.locks = false := BodyLoose.notSynchronized Bd
  have hret := Bd.returns
  have X0 : Stand p l e ({ frames := 2, cells := 0, slots := 0, locals := 24 } : Room) s m #[(.ref a1), (.int p2), (.int p3)] below meth c s₁ [] 0 0 := Stand.of_body Bd
  have e0 : s₁.heap = h0 := by rw [← hh, Bd.state]; rfl
  have N0 := Fr.nil n0
  show Done p e below s (Qrm1 Z a1 p2 p3 h0 n0) ({ frames := 2, cells := 0, slots := 0, locals := 24 } : Room).cells ({ frames := 2, cells := 0, slots := 0, locals := 24 } : Room).slots (s₁.setTop (entryFrame m #[(.ref a1), (.int p2), (.int p3)] 3))
  refine Done.step (fun t k => castTop (ef_1 m a1 p2 p3) k) ?_
  show Done p e below s _ _ _ (s₁.setTop (mkF m 0 #[.val (.ref a1), .val (.int p2), .val (.int p3)] []))
  refine Done.step (fun t k => XS.aloadN X0.here hx rfl (hb hby d1_0) rfl rfl k) ?_
  show Done p e below s _ _ _ (s₁.setTop (mkF m 1 #[.val (.ref a1), .val (.int p2), .val (.int p3)] [(.ref a1)]))
  obtain ⟨v1, _, ⟨T1, L1, k1, n1⟩, -, X1, ⟨Lc1, hQ1, l1, y1, z1⟩, st1⟩ := X0.specialBack hx (y := (⟨"java/lang/Record", "<init>", "()V"⟩ : MethodName)) rfl hown (mvT hZ (hw _ (List.mem_of_getElem? (i := 7) rfl))) (mvT hZ (hw _ (List.mem_of_getElem? (i := 8) rfl))) (mvT hZ (hw _ (List.mem_of_getElem? (i := 11) rfl))) (by decide) (backOf (W := 0) (rm2 l Z a0 hw [] a1  h0 n0 Z0 ) hZ (hw _ (List.mem_of_getElem? (i := 11) rfl)) (hw _ (List.mem_of_getElem? (i := 10) rfl)) (by decide) (by decide)) (g := (mkF m 1 #[.val (.ref a1), .val (.int p2), .val (.int p3)] [(.ref a1)])) rfl (by rw [hml]; rfl) (Steps.refl _) (a := a1) (argsL := []) (rest := []) (lenOf pd_0 rfl) rfl (by show 2 * 0 + _ ≤ _; exact Nat.le_of_eq rfl) (hb hby d1_1) (fun _ _ => ⟨rfl, e0, (by decide : 0 + 0 ≤ _), (by decide : 0 + 0 ≤ _)⟩)
  dsimp only [Pt.U, Pt.locs, Pt.cells, Pt.slots] at X1 l1 y1 z1 st1 hQ1
  subst l1 y1 z1
  refine Done.far st1 ?_
  obtain ⟨rfl, N1q, e1⟩ := hQ1
  have N1 := Fr.app N0 N1q
  show Done p e below s _ _ _ (T1.setTop (mkF m 4 #[.val (.ref a1), .val (.int p2), .val (.int p3)] []))
  refine Done.step (fun t k => XS.aloadN X1.here hx rfl (hb hby d1_4) rfl rfl k) ?_
  show Done p e below s _ _ _ (T1.setTop (mkF m 5 #[.val (.ref a1), .val (.int p2), .val (.int p3)] [(.ref a1)]))
  refine Done.step (fun t k => XS.iloadN X1.here hx rfl (hb hby d1_5) rfl k) ?_
  show Done p e below s _ _ _ (T1.setTop (mkF m 6 #[.val (.ref a1), .val (.int p2), .val (.int p3)] [(.int p2), (.ref a1)]))
  obtain ⟨T2, h2, X2, e2, W2, st2⟩ := putF X1 hx hZ hown (host := "") (Or.inl (hw _ (List.mem_of_getElem? (i := 15) rfl))) Via.refl e1 F_x E1 (Or.inr ⟨(hw _ (List.mem_of_getElem? (i := 16) rfl)), rfl, hnm⟩) (hw _ (List.mem_of_getElem? (i := 2) rfl)) (ty := .int) (by decide) rfl rfl (g := (mkF m 6 #[.val (.ref a1), .val (.int p2), .val (.int p3)] [(.int p2), (.ref a1)])) rfl rfl (hb hby d1_6)
  have f3 : Exa Z h2 a1 "com/example/wardsum/wardsum/model/Cell" := E1.wr W2
  have f4 : Fld Z h2 a1 "com/example/wardsum/wardsum/model/Cell" "x" "I" (.int p2) := F_x.same W2
  have f5 : Fld Z h2 a1 "com/example/wardsum/wardsum/model/Cell" "y" "I" (.int (0 : Int32)) := F_y.other W2 (Or.inr (slot_ne (Or.inr (hw _ (List.mem_of_getElem? (i := 18) rfl))) (Or.inr (hw _ (List.mem_of_getElem? (i := 16) rfl))) (by decide) (t := .int) (t' := .int) (by decide) (by decide)))
  have Z2 : n0 ≤ h2.size := Nat.le_trans Z0 (Keep.of_wr W2).1
  have N2 := Fr.snoc X2 N1 g1
  have K2 : Keep h0 h2 [a1] := (Keep.refl h0 [a1]).wr W2 (Or.inl (by simp))
  refine Done.step st2 ?_
  show Done p e below s _ _ _ (T2.setTop (mkF m 9 #[.val (.ref a1), .val (.int p2), .val (.int p3)] []))
  refine Done.step (fun t k => XS.aloadN X2.here hx rfl (hb hby d1_9) rfl rfl k) ?_
  show Done p e below s _ _ _ (T2.setTop (mkF m 10 #[.val (.ref a1), .val (.int p2), .val (.int p3)] [(.ref a1)]))
  refine Done.step (fun t k => XS.iloadN X2.here hx rfl (hb hby d1_10) rfl k) ?_
  show Done p e below s _ _ _ (T2.setTop (mkF m 11 #[.val (.ref a1), .val (.int p2), .val (.int p3)] [(.int p3), (.ref a1)]))
  obtain ⟨T6, h6, X6, e6, W6, st6⟩ := putF X2 hx hZ hown (host := "") (Or.inl (hw _ (List.mem_of_getElem? (i := 17) rfl))) Via.refl e2 f5 f3 (Or.inr ⟨(hw _ (List.mem_of_getElem? (i := 18) rfl)), rfl, hnm⟩) (hw _ (List.mem_of_getElem? (i := 2) rfl)) (ty := .int) (by decide) rfl rfl (g := (mkF m 11 #[.val (.ref a1), .val (.int p2), .val (.int p3)] [(.int p3), (.ref a1)])) rfl rfl (hb hby d1_11)
  have f7 : Exa Z h6 a1 "com/example/wardsum/wardsum/model/Cell" := f3.wr W6
  have f8 : Fld Z h6 a1 "com/example/wardsum/wardsum/model/Cell" "x" "I" (.int p2) := f4.other W6 (Or.inr (slot_ne (Or.inr (hw _ (List.mem_of_getElem? (i := 16) rfl))) (Or.inr (hw _ (List.mem_of_getElem? (i := 18) rfl))) (by decide) (t := .int) (t' := .int) (by decide) (by decide)))
  have f9 : Fld Z h6 a1 "com/example/wardsum/wardsum/model/Cell" "y" "I" (.int p3) := f5.same W6
  have Z6 : n0 ≤ h6.size := Nat.le_trans Z2 (Keep.of_wr W6).1
  have N6 := Fr.snoc X6 N2 g1
  have K6 : Keep h0 h6 [a1] := K2.wr W6 (Or.inl (by simp))
  refine Done.step st6 ?_
  show Done p e below s _ _ _ (T6.setTop (mkF m 14 #[.val (.ref a1), .val (.int p2), .val (.int p3)] []))
  exact Done.void X6 hx hlk hret (hb hby d1_14) (by decide) (by decide) ⟨rfl, N6, (by rw [e6]; exact ⟨K6, f7, f8, f9⟩)⟩
theorem d4_0 : decode prog_42_method_2_code 0 = .ok (.aload_n 0, 1) := by decide +kernel
theorem d4_1 : decode prog_42_method_2_code 1 = .ok (.getfield 7, 3) := by decide +kernel
theorem d4_4 : decode prog_42_method_2_code 4 = .ok (.aload_n 1, 1) := by decide +kernel
theorem d4_5 : decode prog_42_method_2_code 5 = .ok (.getfield 7, 3) := by decide +kernel
theorem d4_8 : decode prog_42_method_2_code 8 = .ok (.isub, 1) := by decide +kernel
theorem d4_9 : decode prog_42_method_2_code 9 = .ok (.i2l, 1) := by decide +kernel
theorem d4_10 : decode prog_42_method_2_code 10 = .ok (.lstore_n 2, 1) := by decide +kernel
theorem d4_11 : decode prog_42_method_2_code 11 = .ok (.aload_n 0, 1) := by decide +kernel
theorem d4_12 : decode prog_42_method_2_code 12 = .ok (.getfield 13, 3) := by decide +kernel
theorem d4_15 : decode prog_42_method_2_code 15 = .ok (.aload_n 1, 1) := by decide +kernel
theorem d4_16 : decode prog_42_method_2_code 16 = .ok (.getfield 13, 3) := by decide +kernel
theorem d4_19 : decode prog_42_method_2_code 19 = .ok (.isub, 1) := by decide +kernel
theorem d4_20 : decode prog_42_method_2_code 20 = .ok (.i2l, 1) := by decide +kernel
theorem d4_21 : decode prog_42_method_2_code 21 = .ok (.lstore 4, 2) := by decide +kernel
theorem d4_23 : decode prog_42_method_2_code 23 = .ok (.lload_n 2, 1) := by decide +kernel
theorem d4_24 : decode prog_42_method_2_code 24 = .ok (.lload_n 2, 1) := by decide +kernel
theorem d4_25 : decode prog_42_method_2_code 25 = .ok (.lmul, 1) := by decide +kernel
theorem d4_26 : decode prog_42_method_2_code 26 = .ok (.lload 4, 2) := by decide +kernel
theorem d4_28 : decode prog_42_method_2_code 28 = .ok (.lload 4, 2) := by decide +kernel
theorem d4_30 : decode prog_42_method_2_code 30 = .ok (.lmul, 1) := by decide +kernel
theorem d4_31 : decode prog_42_method_2_code 31 = .ok (.ladd, 1) := by decide +kernel
theorem d4_32 : decode prog_42_method_2_code 32 = .ok (.lreturn, 1) := by decide +kernel
def F4 (u0_x : Int32) (u0_y : Int32) (u1_x : Int32) (u1_y : Int32) : Int64 := ((((u0_x - u1_x)).toInt64 * ((u0_x - u1_x)).toInt64) + (((u0_y - u1_y)).toInt64 * ((u0_y - u1_y)).toInt64))
theorem pn_4 : plainName "com/example/wardsum/wardsum/model/Cell" = true := by first | (simp [plainName, overriddenIn]; done) | decide +kernel
theorem ef_4 (m : MethodId) (a1 : Addr) (a2 : Addr) : entryFrame m #[(.ref a1), (.ref a2)] 6 = mkF m 0 #[.val (.ref a1), .val (.ref a2), .unset, .unset, .unset, .unset] [] := by first | (simp [entryFrame, mkF, argsToLocals, Value.category]; done) | rfl
def Qrm4 (Z : State) (a1 : Addr) (a2 : Addr) (u0_x : Int32) (u0_y : Int32) (u1_x : Int32) (u1_y : Int32) (h0 : Heap) (n0 : Nat) : Option Value → Heap → List Loc → Prop := fun v h L => v = some (.long (F4 u0_x u0_y u1_x u1_y)) ∧ Fr n0 L ∧ h = h0
set_option maxRecDepth 65536 in
set_option maxHeartbeats 40000000 in
theorem rm4 (l : Launch) (Z : State) (a0 : Array Value) (hw : ∀ d ∈ tables_1, d.before a0 Z = true) (ws : List Jvm.Cond) (a1 : Addr) (a2 : Addr) (u0_x : Int32) (u0_y : Int32) (u1_x : Int32) (u1_y : Int32) (h0 : Heap) (n0 : Nat) (Z0 : n0 ≤ h0.size) (F0_x : Fld Z h0 a1 "com/example/wardsum/wardsum/model/Cell" "x" "I" (.int u0_x)) (F0_y : Fld Z h0 a1 "com/example/wardsum/wardsum/model/Cell" "y" "I" (.int u0_y)) (F1_x : Fld Z h0 a2 "com/example/wardsum/wardsum/model/Cell" "x" "I" (.int u1_x)) (F1_y : Fld Z h0 a2 "com/example/wardsum/wardsum/model/Cell" "y" "I" (.int u1_y)) :
    MetFree l (⟨"com/example/wardsum/wardsum/model/Cell", "squaredDistanceTo", "(Lcom/example/wardsum/wardsum/model/Cell;)J"⟩ : MethodName) (head1 (Jvm.Cond.code (⟨"com/example/wardsum/wardsum/model/Cell", "squaredDistanceTo", "(Lcom/example/wardsum/wardsum/model/Cell;)J"⟩ : MethodName) prog_42_method_2_code 6 (some .long) :: ws) ({ frames := 0, cells := 0, slots := 0, locals := 0 } : Room)) (fun a U => a = #[(.ref a1), (.ref a2)] ∧ Z.Warmed39 U.vm ∧ U.heap = h0) (fun _ _ _ _ _ => True) (fun _ U o U' => ∃ v L, o = .returned v ∧ Qrm4 Z a1 a2 u0_x u0_y u1_x u1_y h0 n0 v U'.heap L ∧ FrameEnd U o U' L ({ frames := 0, cells := 0, slots := 0, locals := 0 } : Room).cells ({ frames := 0, cells := 0, slots := 0, locals := 0 } : Room).slots) := by
  refine MetFree.of_bodySF (plainFor_of_name pn_4) hisR ?_
  intro p e s m args below meth c s₁ Bd hml0 hP hK
  obtain ⟨rfl, hZ, hh⟩ := hP
  have hx := Bd.exec
  have hby := Bd.bytes
  have hml : c.maxLocals = 6 := hml0
  have hown : s.vm.findClass "com/example/wardsum/wardsum/model/Cell" = some m.cls := findClass_of_methodNamed Bd.named
  have hnm := (name_of_methodNamed Bd.named Bd.method).1
  have hlk : meth.locks = false := BodyLoose.notSynchronized Bd
  have hret := Bd.returns
  have X0 : Stand p l e ({ frames := 0, cells := 0, slots := 0, locals := 0 } : Room) s m #[(.ref a1), (.ref a2)] below meth c s₁ [] 0 0 := Stand.of_body Bd
  have e0 : s₁.heap = h0 := by rw [← hh, Bd.state]; rfl
  have N0 := Fr.nil n0
  show Done p e below s (Qrm4 Z a1 a2 u0_x u0_y u1_x u1_y h0 n0) ({ frames := 0, cells := 0, slots := 0, locals := 0 } : Room).cells ({ frames := 0, cells := 0, slots := 0, locals := 0 } : Room).slots (s₁.setTop (entryFrame m #[(.ref a1), (.ref a2)] 6))
  refine Done.step (fun t k => castTop (ef_4 m a1 a2) k) ?_
  show Done p e below s _ _ _ (s₁.setTop (mkF m 0 #[.val (.ref a1), .val (.ref a2), .unset, .unset, .unset, .unset] []))
  refine Done.step (fun t k => XS.aloadN X0.here hx rfl (hb hby d4_0) rfl rfl k) ?_
  show Done p e below s _ _ _ (s₁.setTop (mkF m 1 #[.val (.ref a1), .val (.ref a2), .unset, .unset, .unset, .unset] [(.ref a1)]))
  obtain ⟨T1, X1, e1, st1⟩ := getF X0 hx hZ hown (host := "") (Or.inl (hw _ (List.mem_of_getElem? (i := 15) rfl))) Via.refl e0 F0_x (g := (mkF m 1 #[.val (.ref a1), .val (.ref a2), .unset, .unset, .unset, .unset] [(.ref a1)])) rfl rfl (hb hby d4_1)
  refine Done.step st1 ?_
  show Done p e below s _ _ _ (T1.setTop (mkF m 4 #[.val (.ref a1), .val (.ref a2), .unset, .unset, .unset, .unset] [(.int u0_x)]))
  refine Done.step (fun t k => XS.aloadN X1.here hx rfl (hb hby d4_4) rfl rfl k) ?_
  show Done p e below s _ _ _ (T1.setTop (mkF m 5 #[.val (.ref a1), .val (.ref a2), .unset, .unset, .unset, .unset] [(.ref a2), (.int u0_x)]))
  obtain ⟨T2, X2, e2, st2⟩ := getF X1 hx hZ hown (host := "") (Or.inl (hw _ (List.mem_of_getElem? (i := 15) rfl))) Via.refl e1 F1_x (g := (mkF m 5 #[.val (.ref a1), .val (.ref a2), .unset, .unset, .unset, .unset] [(.ref a2), (.int u0_x)])) rfl rfl (hb hby d4_5)
  refine Done.step st2 ?_
  show Done p e below s _ _ _ (T2.setTop (mkF m 8 #[.val (.ref a1), .val (.ref a2), .unset, .unset, .unset, .unset] [(.int u1_x), (.int u0_x)]))
  refine Done.step (fun t k => XS.isub X2.here hx rfl (hb hby d4_8) rfl k) ?_
  show Done p e below s _ _ _ (T2.setTop (mkF m 9 #[.val (.ref a1), .val (.ref a2), .unset, .unset, .unset, .unset] [(.int (u0_x - u1_x))]))
  refine Done.step (fun t k => XS.i2l X2.here hx rfl (hb hby d4_9) rfl k) ?_
  show Done p e below s _ _ _ (T2.setTop (mkF m 10 #[.val (.ref a1), .val (.ref a2), .unset, .unset, .unset, .unset] [(.long ((u0_x - u1_x)).toInt64)]))
  refine Done.step (fun t k => XS.lstoreN X2.here hx rfl (hb hby d4_10) rfl (l' := #[.val (.ref a1), .val (.ref a2), .val (.long ((u0_x - u1_x)).toInt64), .second, .unset, .unset]) rfl k) ?_
  show Done p e below s _ _ _ (T2.setTop (mkF m 11 #[.val (.ref a1), .val (.ref a2), .val (.long ((u0_x - u1_x)).toInt64), .second, .unset, .unset] []))
  refine Done.step (fun t k => XS.aloadN X2.here hx rfl (hb hby d4_11) rfl rfl k) ?_
  show Done p e below s _ _ _ (T2.setTop (mkF m 12 #[.val (.ref a1), .val (.ref a2), .val (.long ((u0_x - u1_x)).toInt64), .second, .unset, .unset] [(.ref a1)]))
  obtain ⟨T3, X3, e3, st3⟩ := getF X2 hx hZ hown (host := "") (Or.inl (hw _ (List.mem_of_getElem? (i := 17) rfl))) Via.refl e2 F0_y (g := (mkF m 12 #[.val (.ref a1), .val (.ref a2), .val (.long ((u0_x - u1_x)).toInt64), .second, .unset, .unset] [(.ref a1)])) rfl rfl (hb hby d4_12)
  refine Done.step st3 ?_
  show Done p e below s _ _ _ (T3.setTop (mkF m 15 #[.val (.ref a1), .val (.ref a2), .val (.long ((u0_x - u1_x)).toInt64), .second, .unset, .unset] [(.int u0_y)]))
  refine Done.step (fun t k => XS.aloadN X3.here hx rfl (hb hby d4_15) rfl rfl k) ?_
  show Done p e below s _ _ _ (T3.setTop (mkF m 16 #[.val (.ref a1), .val (.ref a2), .val (.long ((u0_x - u1_x)).toInt64), .second, .unset, .unset] [(.ref a2), (.int u0_y)]))
  obtain ⟨T4, X4, e4, st4⟩ := getF X3 hx hZ hown (host := "") (Or.inl (hw _ (List.mem_of_getElem? (i := 17) rfl))) Via.refl e3 F1_y (g := (mkF m 16 #[.val (.ref a1), .val (.ref a2), .val (.long ((u0_x - u1_x)).toInt64), .second, .unset, .unset] [(.ref a2), (.int u0_y)])) rfl rfl (hb hby d4_16)
  refine Done.step st4 ?_
  show Done p e below s _ _ _ (T4.setTop (mkF m 19 #[.val (.ref a1), .val (.ref a2), .val (.long ((u0_x - u1_x)).toInt64), .second, .unset, .unset] [(.int u1_y), (.int u0_y)]))
  refine Done.step (fun t k => XS.isub X4.here hx rfl (hb hby d4_19) rfl k) ?_
  show Done p e below s _ _ _ (T4.setTop (mkF m 20 #[.val (.ref a1), .val (.ref a2), .val (.long ((u0_x - u1_x)).toInt64), .second, .unset, .unset] [(.int (u0_y - u1_y))]))
  refine Done.step (fun t k => XS.i2l X4.here hx rfl (hb hby d4_20) rfl k) ?_
  show Done p e below s _ _ _ (T4.setTop (mkF m 21 #[.val (.ref a1), .val (.ref a2), .val (.long ((u0_x - u1_x)).toInt64), .second, .unset, .unset] [(.long ((u0_y - u1_y)).toInt64)]))
  refine Done.step (fun t k => XS.lstore X4.here hx rfl (hb hby d4_21) rfl (l' := #[.val (.ref a1), .val (.ref a2), .val (.long ((u0_x - u1_x)).toInt64), .second, .val (.long ((u0_y - u1_y)).toInt64), .second]) rfl k) ?_
  show Done p e below s _ _ _ (T4.setTop (mkF m 23 #[.val (.ref a1), .val (.ref a2), .val (.long ((u0_x - u1_x)).toInt64), .second, .val (.long ((u0_y - u1_y)).toInt64), .second] []))
  refine Done.step (fun t k => XS.lloadN X4.here hx rfl (hb hby d4_23) rfl k) ?_
  show Done p e below s _ _ _ (T4.setTop (mkF m 24 #[.val (.ref a1), .val (.ref a2), .val (.long ((u0_x - u1_x)).toInt64), .second, .val (.long ((u0_y - u1_y)).toInt64), .second] [(.long ((u0_x - u1_x)).toInt64)]))
  refine Done.step (fun t k => XS.lloadN X4.here hx rfl (hb hby d4_24) rfl k) ?_
  show Done p e below s _ _ _ (T4.setTop (mkF m 25 #[.val (.ref a1), .val (.ref a2), .val (.long ((u0_x - u1_x)).toInt64), .second, .val (.long ((u0_y - u1_y)).toInt64), .second] [(.long ((u0_x - u1_x)).toInt64), (.long ((u0_x - u1_x)).toInt64)]))
  refine Done.step (fun t k => XS.lmul X4.here hx rfl (hb hby d4_25) rfl k) ?_
  show Done p e below s _ _ _ (T4.setTop (mkF m 26 #[.val (.ref a1), .val (.ref a2), .val (.long ((u0_x - u1_x)).toInt64), .second, .val (.long ((u0_y - u1_y)).toInt64), .second] [(.long (((u0_x - u1_x)).toInt64 * ((u0_x - u1_x)).toInt64))]))
  refine Done.step (fun t k => XS.lload X4.here hx rfl (hb hby d4_26) rfl k) ?_
  show Done p e below s _ _ _ (T4.setTop (mkF m 28 #[.val (.ref a1), .val (.ref a2), .val (.long ((u0_x - u1_x)).toInt64), .second, .val (.long ((u0_y - u1_y)).toInt64), .second] [(.long ((u0_y - u1_y)).toInt64), (.long (((u0_x - u1_x)).toInt64 * ((u0_x - u1_x)).toInt64))]))
  refine Done.step (fun t k => XS.lload X4.here hx rfl (hb hby d4_28) rfl k) ?_
  show Done p e below s _ _ _ (T4.setTop (mkF m 30 #[.val (.ref a1), .val (.ref a2), .val (.long ((u0_x - u1_x)).toInt64), .second, .val (.long ((u0_y - u1_y)).toInt64), .second] [(.long ((u0_y - u1_y)).toInt64), (.long ((u0_y - u1_y)).toInt64), (.long (((u0_x - u1_x)).toInt64 * ((u0_x - u1_x)).toInt64))]))
  refine Done.step (fun t k => XS.lmul X4.here hx rfl (hb hby d4_30) rfl k) ?_
  show Done p e below s _ _ _ (T4.setTop (mkF m 31 #[.val (.ref a1), .val (.ref a2), .val (.long ((u0_x - u1_x)).toInt64), .second, .val (.long ((u0_y - u1_y)).toInt64), .second] [(.long (((u0_y - u1_y)).toInt64 * ((u0_y - u1_y)).toInt64)), (.long (((u0_x - u1_x)).toInt64 * ((u0_x - u1_x)).toInt64))]))
  refine Done.step (fun t k => XS.ladd X4.here hx rfl (hb hby d4_31) rfl k) ?_
  show Done p e below s _ _ _ (T4.setTop (mkF m 32 #[.val (.ref a1), .val (.ref a2), .val (.long ((u0_x - u1_x)).toInt64), .second, .val (.long ((u0_y - u1_y)).toInt64), .second] [(.long ((((u0_x - u1_x)).toInt64 * ((u0_x - u1_x)).toInt64) + (((u0_y - u1_y)).toInt64 * ((u0_y - u1_y)).toInt64)))]))
  exact Done.long X4 hx hlk hret (hb hby d4_32) (by decide) (by decide) ⟨by rw [show F4 u0_x u0_y u1_x u1_y = ((((u0_x - u1_x)).toInt64 * ((u0_x - u1_x)).toInt64) + (((u0_y - u1_y)).toInt64 * ((u0_y - u1_y)).toInt64)) from by unfold F4; rfl] <;> rfl, N0, e4⟩
theorem tl32_0 : (0 : Int32).toInt = 0 := by decide
theorem tl64_0 : (0 : Int64).toInt = 0 := by decide
theorem tl32_1 : (1 : Int32).toInt = 1 := by decide
theorem tl64_2 : (2 : Int64).toInt = 2 := by decide
theorem tl32_2147483647 : (2147483647 : Int32).toInt = 2147483647 := by decide
def F0 (p1 : Int32) (p2 : Int32) (p3 : Int32) (p4 : Int32) : Int32 := (if (F4 (p1 &&& (2147483647 : Int32)) (p2 &&& (2147483647 : Int32)) (p3 &&& (2147483647 : Int32)) (p4 &&& (2147483647 : Int32))) = ((((((((p1 &&& (2147483647 : Int32))).toInt64 * ((p1 &&& (2147483647 : Int32))).toInt64) + (((p3 &&& (2147483647 : Int32))).toInt64 * ((p3 &&& (2147483647 : Int32))).toInt64)) - (((2 : Int64) * ((p1 &&& (2147483647 : Int32))).toInt64) * ((p3 &&& (2147483647 : Int32))).toInt64)) + (((p2 &&& (2147483647 : Int32))).toInt64 * ((p2 &&& (2147483647 : Int32))).toInt64)) + (((p4 &&& (2147483647 : Int32))).toInt64 * ((p4 &&& (2147483647 : Int32))).toInt64)) - (((2 : Int64) * ((p2 &&& (2147483647 : Int32))).toInt64) * ((p4 &&& (2147483647 : Int32))).toInt64)) then (if (F4 (p1 &&& (2147483647 : Int32)) (p2 &&& (2147483647 : Int32)) (p3 &&& (2147483647 : Int32)) (p4 &&& (2147483647 : Int32))) < (0 : Int64) then (0 : Int32)
    else (if (F4 (p3 &&& (2147483647 : Int32)) (p4 &&& (2147483647 : Int32)) (p1 &&& (2147483647 : Int32)) (p2 &&& (2147483647 : Int32))) = (F4 (p1 &&& (2147483647 : Int32)) (p2 &&& (2147483647 : Int32)) (p3 &&& (2147483647 : Int32)) (p4 &&& (2147483647 : Int32))) then (1 : Int32)
      else (0 : Int32)))
  else (0 : Int32))
theorem own_sub (a c : Int32) (ha : 0 ≤ a.toInt) (hc : 0 ≤ c.toInt) : (a - c).toInt64 = a.toInt64 - c.toInt64 := by
  apply Int64.toInt_inj.mp
  have h1 := c_isub a c
  have h2 := c_lsub a.toInt64 c.toInt64
  rw [c_i2l, c_i2l] at h2
  rw [c_i2l]
  have r1 := rng32 a
  have r2 := rng32 c
  have r3 := rng32 (a - c)
  have r4 := rng64 (a.toInt64 - c.toInt64)
  omega
theorem own_ring (A B C D : Int64) : (A - C) * (A - C) + (B - D) * (B - D) = (((((A * A) + (C * C)) - (((2 : Int64) * A) * C)) + (B * B)) + (D * D)) - (((2 : Int64) * B) * D) := by
  grind
theorem own_sq (x : Int) (h1 : -2147483648 < x) (h2 : x < 2147483648) : 0 ≤ x * x ∧ x * x ≤ 4611686014132420609 := by
  have m1 := mc (a := x) (b := x) (l1 := -2147483647) (h1 := 2147483647) (l2 := -2147483647) (h2 := 2147483647) (by omega) (by omega) (by omega) (by omega)
  refine ⟨?_, by omega⟩
  by_cases q : 0 ≤ x
  · exact Int.mul_nonneg q q
  · have := Int.mul_nonneg (a := -x) (b := -x) (by omega) (by omega)
    rw [Int.neg_mul_neg] at this; exact this
theorem own_nn (a c b d : Int32) (ha : 0 ≤ a.toInt) (hc : 0 ≤ c.toInt) (hb : 0 ≤ b.toInt) (hd : 0 ≤ d.toInt) : 0 ≤ ((a - c).toInt64 * (a - c).toInt64 + (b - d).toInt64 * (b - d).toInt64).toInt := by
  have r1 := rng32 a
  have r2 := rng32 c
  have r3 := rng32 b
  have r4 := rng32 d
  have e1 : (a - c).toInt = a.toInt - c.toInt := by have := c_isub a c; have := rng32 (a - c); omega
  have e2 : (b - d).toInt = b.toInt - d.toInt := by have := c_isub b d; have := rng32 (b - d); omega
  have s1 := own_sq (a.toInt - c.toInt) (by omega) (by omega)
  have s2 := own_sq (b.toInt - d.toInt) (by omega) (by omega)
  have m1 := c_lmul (a - c).toInt64 (a - c).toInt64
  have m2 := c_lmul (b - d).toInt64 (b - d).toInt64
  have q := c_ladd ((a - c).toInt64 * (a - c).toInt64) ((b - d).toInt64 * (b - d).toInt64)
  rw [c_i2l, e1] at m1
  rw [c_i2l, e2] at m2
  have v1 := rng64 ((a - c).toInt64 * (a - c).toInt64)
  have v2 := rng64 ((b - d).toInt64 * (b - d).toInt64)
  have v3 := rng64 ((a - c).toInt64 * (a - c).toInt64 + (b - d).toInt64 * (b - d).toInt64)
  generalize (a.toInt - c.toInt) * (a.toInt - c.toInt) = P at *
  generalize (b.toInt - d.toInt) * (b.toInt - d.toInt) = R at *
  omega
theorem law_one (p1 p2 p3 p4 : Int32) : F0 p1 p2 p3 p4 = 1 := by
  have m1 := c_mask p1 (2147483647 : Int32) 31 (by decide) (by decide)
  have m2 := c_mask p2 (2147483647 : Int32) 31 (by decide) (by decide)
  have m3 := c_mask p3 (2147483647 : Int32) 31 (by decide) (by decide)
  have m4 := c_mask p4 (2147483647 : Int32) 31 (by decide) (by decide)
  unfold F0
  generalize (p1 &&& (2147483647 : Int32)) = a at *
  generalize (p2 &&& (2147483647 : Int32)) = b at *
  generalize (p3 &&& (2147483647 : Int32)) = c at *
  generalize (p4 &&& (2147483647 : Int32)) = d at *
  have n := own_nn a c b d (by omega) (by omega) (by omega) (by omega)
  have h1 : F4 a b c d = (((((((a).toInt64 * (a).toInt64) + ((c).toInt64 * (c).toInt64)) - (((2 : Int64) * (a).toInt64) * (c).toInt64)) + ((b).toInt64 * (b).toInt64)) + ((d).toInt64 * (d).toInt64)) - (((2 : Int64) * (b).toInt64) * (d).toInt64)) := by
    unfold F4
    rw [own_sub a c (by omega) (by omega), own_sub b d (by omega) (by omega)]
    exact own_ring _ _ _ _
  have h2 : ¬ F4 a b c d < (0 : Int64) := by
    unfold F4
    rw [Int64.lt_iff_toInt_lt]
    show ¬ _ < (0 : Int)
    omega
  have h3 : F4 c d a b = F4 a b c d := by
    unfold F4
    rw [own_sub a c (by omega) (by omega), own_sub b d (by omega) (by omega), own_sub c a (by omega) (by omega), own_sub d b (by omega) (by omega)]
    grind
  rw [if_pos h1, if_neg h2, if_pos h3]
theorem pn_0 : plainName "com/example/wardsum/wardsum/model/CellSquaredDistanceToPinLaw" = true := by first | (simp [plainName, overriddenIn]; done) | decide +kernel
theorem ef_0 (m : MethodId) (p1 : Int32) (p2 : Int32) (p3 : Int32) (p4 : Int32) : entryFrame m #[(.int p1), (.int p2), (.int p3), (.int p4)] maxLocals = mkF m 0 #[.val (.int p1), .val (.int p2), .val (.int p3), .val (.int p4), .unset, .unset, .unset, .unset, .unset, .unset, .unset, .unset, .unset, .unset, .unset, .unset, .unset, .unset, .unset, .unset, .unset, .unset, .unset, .unset] [] := by first | (simp [entryFrame, mkF, argsToLocals, Value.category, maxLocals]; done) | rfl
def Qrm0 (Z : State) (p1 : Int32) (p2 : Int32) (p3 : Int32) (p4 : Int32) (h0 : Heap) (n0 : Nat) : Option Value → Heap → List Loc → Prop := fun v h L => v = some (.int 1) ∧ Fr n0 L
set_option maxRecDepth 65536 in
set_option maxHeartbeats 40000000 in
theorem rm0 (l : Launch) (Z : State) (a0 : Array Value) (hw : ∀ d ∈ tables_1, d.before a0 Z = true) (ws : List Jvm.Cond) (p1 : Int32) (p2 : Int32) (p3 : Int32) (p4 : Int32) (h0 : Heap) (n0 : Nat) (Z0 : n0 ≤ h0.size) :
    MetFree l x (head1 (Jvm.Cond.code x code maxLocals ret :: ws) room_1) (fun a U => a = #[(.int p1), (.int p2), (.int p3), (.int p4)] ∧ Z.Warmed39 U.vm ∧ U.heap = h0) (fun _ _ _ _ _ => True) (fun _ U o U' => ∃ v L, o = .returned v ∧ Qrm0 Z p1 p2 p3 p4 h0 n0 v U'.heap L ∧ FrameEnd U o U' L room_1.cells room_1.slots) := by
  refine MetFree.of_bodySF (plainFor_of_name pn_0) hisR ?_
  intro p e s m args below meth c s₁ Bd hml0 hP hK
  obtain ⟨rfl, hZ, hh⟩ := hP
  have hx := Bd.exec
  have hby := Bd.bytes
  have hml : c.maxLocals = 24 := hml0
  have hown : s.vm.findClass "com/example/wardsum/wardsum/model/CellSquaredDistanceToPinLaw" = some m.cls := findClass_of_methodNamed Bd.named
  have hnm := (name_of_methodNamed Bd.named Bd.method).1
  have hlk : meth.locks = false := BodyLoose.notSynchronized Bd
  have hret := Bd.returns
  have X0 : Stand p l e room_1 s m #[(.int p1), (.int p2), (.int p3), (.int p4)] below meth c s₁ [] 0 0 := Stand.of_body Bd
  have e0 : s₁.heap = h0 := by rw [← hh, Bd.state]; rfl
  have N0 := Fr.nil n0
  show Done p e below s (Qrm0 Z p1 p2 p3 p4 h0 n0) room_1.cells room_1.slots (s₁.setTop (entryFrame m #[(.int p1), (.int p2), (.int p3), (.int p4)] maxLocals))
  refine Done.step (fun t k => castTop (ef_0 m p1 p2 p3 p4) k) ?_
  show Done p e below s _ _ _ (s₁.setTop (mkF m 0 #[.val (.int p1), .val (.int p2), .val (.int p3), .val (.int p4), .unset, .unset, .unset, .unset, .unset, .unset, .unset, .unset, .unset, .unset, .unset, .unset, .unset, .unset, .unset, .unset, .unset, .unset, .unset, .unset] []))
  refine Done.step (fun t k => XS.iloadN X0.here hx rfl (hb hby at_0) rfl k) ?_
  show Done p e below s _ _ _ (s₁.setTop (mkF m 1 #[.val (.int p1), .val (.int p2), .val (.int p3), .val (.int p4), .unset, .unset, .unset, .unset, .unset, .unset, .unset, .unset, .unset, .unset, .unset, .unset, .unset, .unset, .unset, .unset, .unset, .unset, .unset, .unset] [(.int p1)]))
  refine Done.step (X0.ldcInt hx hown (mvT hZ (hw _ (List.mem_of_getElem? (i := 0) rfl))) (g := (mkF m 1 #[.val (.int p1), .val (.int p2), .val (.int p3), .val (.int p4), .unset, .unset, .unset, .unset, .unset, .unset, .unset, .unset, .unset, .unset, .unset, .unset, .unset, .unset, .unset, .unset, .unset, .unset, .unset, .unset] [(.int p1)])) rfl (hb hby at_1)) ?_
  show Done p e below s _ _ _ (s₁.setTop (mkF m 3 #[.val (.int p1), .val (.int p2), .val (.int p3), .val (.int p4), .unset, .unset, .unset, .unset, .unset, .unset, .unset, .unset, .unset, .unset, .unset, .unset, .unset, .unset, .unset, .unset, .unset, .unset, .unset, .unset] [(.int (2147483647 : Int32)), (.int p1)]))
  refine Done.step (fun t k => XS.iand X0.here hx rfl (hb hby at_3) rfl k) ?_
  show Done p e below s _ _ _ (s₁.setTop (mkF m 4 #[.val (.int p1), .val (.int p2), .val (.int p3), .val (.int p4), .unset, .unset, .unset, .unset, .unset, .unset, .unset, .unset, .unset, .unset, .unset, .unset, .unset, .unset, .unset, .unset, .unset, .unset, .unset, .unset] [(.int (p1 &&& (2147483647 : Int32)))]))
  refine Done.step (fun t k => XS.istore X0.here hx rfl (hb hby at_4) rfl (l' := #[.val (.int p1), .val (.int p2), .val (.int p3), .val (.int p4), .val (.int (p1 &&& (2147483647 : Int32))), .unset, .unset, .unset, .unset, .unset, .unset, .unset, .unset, .unset, .unset, .unset, .unset, .unset, .unset, .unset, .unset, .unset, .unset, .unset]) rfl k) ?_
  show Done p e below s _ _ _ (s₁.setTop (mkF m 6 #[.val (.int p1), .val (.int p2), .val (.int p3), .val (.int p4), .val (.int (p1 &&& (2147483647 : Int32))), .unset, .unset, .unset, .unset, .unset, .unset, .unset, .unset, .unset, .unset, .unset, .unset, .unset, .unset, .unset, .unset, .unset, .unset, .unset] []))
  refine Done.step (fun t k => XS.iloadN X0.here hx rfl (hb hby at_6) rfl k) ?_
  show Done p e below s _ _ _ (s₁.setTop (mkF m 7 #[.val (.int p1), .val (.int p2), .val (.int p3), .val (.int p4), .val (.int (p1 &&& (2147483647 : Int32))), .unset, .unset, .unset, .unset, .unset, .unset, .unset, .unset, .unset, .unset, .unset, .unset, .unset, .unset, .unset, .unset, .unset, .unset, .unset] [(.int p2)]))
  refine Done.step (X0.ldcInt hx hown (mvT hZ (hw _ (List.mem_of_getElem? (i := 0) rfl))) (g := (mkF m 7 #[.val (.int p1), .val (.int p2), .val (.int p3), .val (.int p4), .val (.int (p1 &&& (2147483647 : Int32))), .unset, .unset, .unset, .unset, .unset, .unset, .unset, .unset, .unset, .unset, .unset, .unset, .unset, .unset, .unset, .unset, .unset, .unset, .unset] [(.int p2)])) rfl (hb hby at_7)) ?_
  show Done p e below s _ _ _ (s₁.setTop (mkF m 9 #[.val (.int p1), .val (.int p2), .val (.int p3), .val (.int p4), .val (.int (p1 &&& (2147483647 : Int32))), .unset, .unset, .unset, .unset, .unset, .unset, .unset, .unset, .unset, .unset, .unset, .unset, .unset, .unset, .unset, .unset, .unset, .unset, .unset] [(.int (2147483647 : Int32)), (.int p2)]))
  refine Done.step (fun t k => XS.iand X0.here hx rfl (hb hby at_9) rfl k) ?_
  show Done p e below s _ _ _ (s₁.setTop (mkF m 10 #[.val (.int p1), .val (.int p2), .val (.int p3), .val (.int p4), .val (.int (p1 &&& (2147483647 : Int32))), .unset, .unset, .unset, .unset, .unset, .unset, .unset, .unset, .unset, .unset, .unset, .unset, .unset, .unset, .unset, .unset, .unset, .unset, .unset] [(.int (p2 &&& (2147483647 : Int32)))]))
  refine Done.step (fun t k => XS.istore X0.here hx rfl (hb hby at_10) rfl (l' := #[.val (.int p1), .val (.int p2), .val (.int p3), .val (.int p4), .val (.int (p1 &&& (2147483647 : Int32))), .val (.int (p2 &&& (2147483647 : Int32))), .unset, .unset, .unset, .unset, .unset, .unset, .unset, .unset, .unset, .unset, .unset, .unset, .unset, .unset, .unset, .unset, .unset, .unset]) rfl k) ?_
  show Done p e below s _ _ _ (s₁.setTop (mkF m 12 #[.val (.int p1), .val (.int p2), .val (.int p3), .val (.int p4), .val (.int (p1 &&& (2147483647 : Int32))), .val (.int (p2 &&& (2147483647 : Int32))), .unset, .unset, .unset, .unset, .unset, .unset, .unset, .unset, .unset, .unset, .unset, .unset, .unset, .unset, .unset, .unset, .unset, .unset] []))
  refine Done.step (fun t k => XS.iloadN X0.here hx rfl (hb hby at_12) rfl k) ?_
  show Done p e below s _ _ _ (s₁.setTop (mkF m 13 #[.val (.int p1), .val (.int p2), .val (.int p3), .val (.int p4), .val (.int (p1 &&& (2147483647 : Int32))), .val (.int (p2 &&& (2147483647 : Int32))), .unset, .unset, .unset, .unset, .unset, .unset, .unset, .unset, .unset, .unset, .unset, .unset, .unset, .unset, .unset, .unset, .unset, .unset] [(.int p3)]))
  refine Done.step (X0.ldcInt hx hown (mvT hZ (hw _ (List.mem_of_getElem? (i := 0) rfl))) (g := (mkF m 13 #[.val (.int p1), .val (.int p2), .val (.int p3), .val (.int p4), .val (.int (p1 &&& (2147483647 : Int32))), .val (.int (p2 &&& (2147483647 : Int32))), .unset, .unset, .unset, .unset, .unset, .unset, .unset, .unset, .unset, .unset, .unset, .unset, .unset, .unset, .unset, .unset, .unset, .unset] [(.int p3)])) rfl (hb hby at_13)) ?_
  show Done p e below s _ _ _ (s₁.setTop (mkF m 15 #[.val (.int p1), .val (.int p2), .val (.int p3), .val (.int p4), .val (.int (p1 &&& (2147483647 : Int32))), .val (.int (p2 &&& (2147483647 : Int32))), .unset, .unset, .unset, .unset, .unset, .unset, .unset, .unset, .unset, .unset, .unset, .unset, .unset, .unset, .unset, .unset, .unset, .unset] [(.int (2147483647 : Int32)), (.int p3)]))
  refine Done.step (fun t k => XS.iand X0.here hx rfl (hb hby at_15) rfl k) ?_
  show Done p e below s _ _ _ (s₁.setTop (mkF m 16 #[.val (.int p1), .val (.int p2), .val (.int p3), .val (.int p4), .val (.int (p1 &&& (2147483647 : Int32))), .val (.int (p2 &&& (2147483647 : Int32))), .unset, .unset, .unset, .unset, .unset, .unset, .unset, .unset, .unset, .unset, .unset, .unset, .unset, .unset, .unset, .unset, .unset, .unset] [(.int (p3 &&& (2147483647 : Int32)))]))
  refine Done.step (fun t k => XS.istore X0.here hx rfl (hb hby at_16) rfl (l' := #[.val (.int p1), .val (.int p2), .val (.int p3), .val (.int p4), .val (.int (p1 &&& (2147483647 : Int32))), .val (.int (p2 &&& (2147483647 : Int32))), .val (.int (p3 &&& (2147483647 : Int32))), .unset, .unset, .unset, .unset, .unset, .unset, .unset, .unset, .unset, .unset, .unset, .unset, .unset, .unset, .unset, .unset, .unset]) rfl k) ?_
  show Done p e below s _ _ _ (s₁.setTop (mkF m 18 #[.val (.int p1), .val (.int p2), .val (.int p3), .val (.int p4), .val (.int (p1 &&& (2147483647 : Int32))), .val (.int (p2 &&& (2147483647 : Int32))), .val (.int (p3 &&& (2147483647 : Int32))), .unset, .unset, .unset, .unset, .unset, .unset, .unset, .unset, .unset, .unset, .unset, .unset, .unset, .unset, .unset, .unset, .unset] []))
  refine Done.step (fun t k => XS.iloadN X0.here hx rfl (hb hby at_18) rfl k) ?_
  show Done p e below s _ _ _ (s₁.setTop (mkF m 19 #[.val (.int p1), .val (.int p2), .val (.int p3), .val (.int p4), .val (.int (p1 &&& (2147483647 : Int32))), .val (.int (p2 &&& (2147483647 : Int32))), .val (.int (p3 &&& (2147483647 : Int32))), .unset, .unset, .unset, .unset, .unset, .unset, .unset, .unset, .unset, .unset, .unset, .unset, .unset, .unset, .unset, .unset, .unset] [(.int p4)]))
  refine Done.step (X0.ldcInt hx hown (mvT hZ (hw _ (List.mem_of_getElem? (i := 0) rfl))) (g := (mkF m 19 #[.val (.int p1), .val (.int p2), .val (.int p3), .val (.int p4), .val (.int (p1 &&& (2147483647 : Int32))), .val (.int (p2 &&& (2147483647 : Int32))), .val (.int (p3 &&& (2147483647 : Int32))), .unset, .unset, .unset, .unset, .unset, .unset, .unset, .unset, .unset, .unset, .unset, .unset, .unset, .unset, .unset, .unset, .unset] [(.int p4)])) rfl (hb hby at_19)) ?_
  show Done p e below s _ _ _ (s₁.setTop (mkF m 21 #[.val (.int p1), .val (.int p2), .val (.int p3), .val (.int p4), .val (.int (p1 &&& (2147483647 : Int32))), .val (.int (p2 &&& (2147483647 : Int32))), .val (.int (p3 &&& (2147483647 : Int32))), .unset, .unset, .unset, .unset, .unset, .unset, .unset, .unset, .unset, .unset, .unset, .unset, .unset, .unset, .unset, .unset, .unset] [(.int (2147483647 : Int32)), (.int p4)]))
  refine Done.step (fun t k => XS.iand X0.here hx rfl (hb hby at_21) rfl k) ?_
  show Done p e below s _ _ _ (s₁.setTop (mkF m 22 #[.val (.int p1), .val (.int p2), .val (.int p3), .val (.int p4), .val (.int (p1 &&& (2147483647 : Int32))), .val (.int (p2 &&& (2147483647 : Int32))), .val (.int (p3 &&& (2147483647 : Int32))), .unset, .unset, .unset, .unset, .unset, .unset, .unset, .unset, .unset, .unset, .unset, .unset, .unset, .unset, .unset, .unset, .unset] [(.int (p4 &&& (2147483647 : Int32)))]))
  refine Done.step (fun t k => XS.istore X0.here hx rfl (hb hby at_22) rfl (l' := #[.val (.int p1), .val (.int p2), .val (.int p3), .val (.int p4), .val (.int (p1 &&& (2147483647 : Int32))), .val (.int (p2 &&& (2147483647 : Int32))), .val (.int (p3 &&& (2147483647 : Int32))), .val (.int (p4 &&& (2147483647 : Int32))), .unset, .unset, .unset, .unset, .unset, .unset, .unset, .unset, .unset, .unset, .unset, .unset, .unset, .unset, .unset, .unset]) rfl k) ?_
  show Done p e below s _ _ _ (s₁.setTop (mkF m 24 #[.val (.int p1), .val (.int p2), .val (.int p3), .val (.int p4), .val (.int (p1 &&& (2147483647 : Int32))), .val (.int (p2 &&& (2147483647 : Int32))), .val (.int (p3 &&& (2147483647 : Int32))), .val (.int (p4 &&& (2147483647 : Int32))), .unset, .unset, .unset, .unset, .unset, .unset, .unset, .unset, .unset, .unset, .unset, .unset, .unset, .unset, .unset, .unset] []))
  obtain ⟨T1, h1, X1, e1, E1, A1, D1, -, st1⟩ := newO X0 hx hZ hown (hw _ (List.mem_of_getElem? (i := 1) rfl)) (hw _ (List.mem_of_getElem? (i := 2) rfl)) (hw _ (List.mem_of_getElem? (i := 3) rfl)) e0 (g := (mkF m 24 #[.val (.int p1), .val (.int p2), .val (.int p3), .val (.int p4), .val (.int (p1 &&& (2147483647 : Int32))), .val (.int (p2 &&& (2147483647 : Int32))), .val (.int (p3 &&& (2147483647 : Int32))), .val (.int (p4 &&& (2147483647 : Int32))), .unset, .unset, .unset, .unset, .unset, .unset, .unset, .unset, .unset, .unset, .unset, .unset, .unset, .unset, .unset, .unset] [])) rfl (hb hby at_24) (by decide) (by decide)
  obtain ⟨b1, gq1⟩ : ∃ z, z = h0.size := ⟨_, rfl⟩
  rw [← gq1] at A1 D1 st1
  have g_b1 : n0 ≤ b1 := Nat.le_trans Z0 (Nat.le_of_eq gq1.symm)
  have Z1 : n0 ≤ h1.size := Nat.le_trans Z0 E1.1
  have f2 : Fld Z h1 b1 "com/example/wardsum/wardsum/model/Cell" "x" "I" (.int (0 : Int32)) := D1 (Or.inr (hw _ (List.mem_of_getElem? (i := 16) rfl))) (ty := .int) (by decide)
  have f3 : Fld Z h1 b1 "com/example/wardsum/wardsum/model/Cell" "y" "I" (.int (0 : Int32)) := D1 (Or.inr (hw _ (List.mem_of_getElem? (i := 18) rfl))) (ty := .int) (by decide)
  refine Done.step st1 ?_
  show Done p e below s _ _ _ (T1.setTop (mkF m 27 #[.val (.int p1), .val (.int p2), .val (.int p3), .val (.int p4), .val (.int (p1 &&& (2147483647 : Int32))), .val (.int (p2 &&& (2147483647 : Int32))), .val (.int (p3 &&& (2147483647 : Int32))), .val (.int (p4 &&& (2147483647 : Int32))), .unset, .unset, .unset, .unset, .unset, .unset, .unset, .unset, .unset, .unset, .unset, .unset, .unset, .unset, .unset, .unset] [(.ref b1)]))
  refine Done.step (fun t k => XS.dup X1.here hx rfl (hb hby at_27) rfl rfl k) ?_
  show Done p e below s _ _ _ (T1.setTop (mkF m 28 #[.val (.int p1), .val (.int p2), .val (.int p3), .val (.int p4), .val (.int (p1 &&& (2147483647 : Int32))), .val (.int (p2 &&& (2147483647 : Int32))), .val (.int (p3 &&& (2147483647 : Int32))), .val (.int (p4 &&& (2147483647 : Int32))), .unset, .unset, .unset, .unset, .unset, .unset, .unset, .unset, .unset, .unset, .unset, .unset, .unset, .unset, .unset, .unset] [(.ref b1), (.ref b1)]))
  refine Done.step (fun t k => XS.iload X1.here hx rfl (hb hby at_28) rfl k) ?_
  show Done p e below s _ _ _ (T1.setTop (mkF m 30 #[.val (.int p1), .val (.int p2), .val (.int p3), .val (.int p4), .val (.int (p1 &&& (2147483647 : Int32))), .val (.int (p2 &&& (2147483647 : Int32))), .val (.int (p3 &&& (2147483647 : Int32))), .val (.int (p4 &&& (2147483647 : Int32))), .unset, .unset, .unset, .unset, .unset, .unset, .unset, .unset, .unset, .unset, .unset, .unset, .unset, .unset, .unset, .unset] [(.int (p1 &&& (2147483647 : Int32))), (.ref b1), (.ref b1)]))
  refine Done.step (fun t k => XS.iload X1.here hx rfl (hb hby at_30) rfl k) ?_
  show Done p e below s _ _ _ (T1.setTop (mkF m 32 #[.val (.int p1), .val (.int p2), .val (.int p3), .val (.int p4), .val (.int (p1 &&& (2147483647 : Int32))), .val (.int (p2 &&& (2147483647 : Int32))), .val (.int (p3 &&& (2147483647 : Int32))), .val (.int (p4 &&& (2147483647 : Int32))), .unset, .unset, .unset, .unset, .unset, .unset, .unset, .unset, .unset, .unset, .unset, .unset, .unset, .unset, .unset, .unset] [(.int (p2 &&& (2147483647 : Int32))), (.int (p1 &&& (2147483647 : Int32))), (.ref b1), (.ref b1)]))
  obtain ⟨v4, _, ⟨T4, L4, k4, n4⟩, -, X4, ⟨Lc4, hQ4, l4, y4, z4⟩, st4⟩ := X1.specialBack hx (y := (⟨"com/example/wardsum/wardsum/model/Cell", "<init>", "(II)V"⟩ : MethodName)) rfl hown (mvT hZ (hw _ (List.mem_of_getElem? (i := 4) rfl))) (mvT hZ (hw _ (List.mem_of_getElem? (i := 5) rfl))) (mvT hZ (hw _ (List.mem_of_getElem? (i := 6) rfl))) (by decide) (backOf (W := 1) (rm1 l Z a0 hw [] b1 (p1 &&& (2147483647 : Int32)) (p2 &&& (2147483647 : Int32))  h1 n0 Z1 A1 f2 f3 g_b1) hZ (hw _ (List.mem_of_getElem? (i := 6) rfl)) (hw _ (List.mem_of_getElem? (i := 3) rfl)) (by decide) (by decide)) (g := (mkF m 32 #[.val (.int p1), .val (.int p2), .val (.int p3), .val (.int p4), .val (.int (p1 &&& (2147483647 : Int32))), .val (.int (p2 &&& (2147483647 : Int32))), .val (.int (p3 &&& (2147483647 : Int32))), .val (.int (p4 &&& (2147483647 : Int32))), .unset, .unset, .unset, .unset, .unset, .unset, .unset, .unset, .unset, .unset, .unset, .unset, .unset, .unset, .unset, .unset] [(.int (p2 &&& (2147483647 : Int32))), (.int (p1 &&& (2147483647 : Int32))), (.ref b1), (.ref b1)])) rfl (by rw [hml]; rfl) (Steps.refl _) (a := b1) (argsL := [(.int (p1 &&& (2147483647 : Int32))), (.int (p2 &&& (2147483647 : Int32)))]) (rest := [(.ref b1)]) (lenOf pd_1 rfl) rfl (by show 2 * 0 + _ ≤ _; exact Nat.le_of_eq rfl) (hb hby at_32) (fun _ _ => ⟨rfl, e1, (by decide : 1 + 0 ≤ _), (by decide : 2 + 0 ≤ _)⟩)
  dsimp only [Pt.U, Pt.locs, Pt.cells, Pt.slots] at X4 l4 y4 z4 st4 hQ4
  subst l4 y4 z4
  refine Done.far st4 ?_
  obtain ⟨rfl, N4q, K4q, x4, y4_0, y4_1⟩ := hQ4
  have N4 := Fr.app N0 N4q
  have f5 : Exa Z T4.heap b1 "com/example/wardsum/wardsum/model/Cell" := A1.keep K4q
  have Zk4 : n0 ≤ T4.heap.size := Nat.le_trans Z1 K4q.1
  show Done p e below s _ _ _ (T4.setTop (mkF m 35 #[.val (.int p1), .val (.int p2), .val (.int p3), .val (.int p4), .val (.int (p1 &&& (2147483647 : Int32))), .val (.int (p2 &&& (2147483647 : Int32))), .val (.int (p3 &&& (2147483647 : Int32))), .val (.int (p4 &&& (2147483647 : Int32))), .unset, .unset, .unset, .unset, .unset, .unset, .unset, .unset, .unset, .unset, .unset, .unset, .unset, .unset, .unset, .unset] [(.ref b1)]))
  refine Done.step (fun t k => XS.astore X4.here hx rfl (hb hby at_35) rfl rfl (l' := #[.val (.int p1), .val (.int p2), .val (.int p3), .val (.int p4), .val (.int (p1 &&& (2147483647 : Int32))), .val (.int (p2 &&& (2147483647 : Int32))), .val (.int (p3 &&& (2147483647 : Int32))), .val (.int (p4 &&& (2147483647 : Int32))), .val (.ref b1), .unset, .unset, .unset, .unset, .unset, .unset, .unset, .unset, .unset, .unset, .unset, .unset, .unset, .unset, .unset]) rfl k) ?_
  show Done p e below s _ _ _ (T4.setTop (mkF m 37 #[.val (.int p1), .val (.int p2), .val (.int p3), .val (.int p4), .val (.int (p1 &&& (2147483647 : Int32))), .val (.int (p2 &&& (2147483647 : Int32))), .val (.int (p3 &&& (2147483647 : Int32))), .val (.int (p4 &&& (2147483647 : Int32))), .val (.ref b1), .unset, .unset, .unset, .unset, .unset, .unset, .unset, .unset, .unset, .unset, .unset, .unset, .unset, .unset, .unset] []))
  obtain ⟨T6, h6, X6, e6, E6, A6, D6, -, st6⟩ := newO X4 hx hZ hown (hw _ (List.mem_of_getElem? (i := 1) rfl)) (hw _ (List.mem_of_getElem? (i := 2) rfl)) (hw _ (List.mem_of_getElem? (i := 3) rfl)) rfl (g := (mkF m 37 #[.val (.int p1), .val (.int p2), .val (.int p3), .val (.int p4), .val (.int (p1 &&& (2147483647 : Int32))), .val (.int (p2 &&& (2147483647 : Int32))), .val (.int (p3 &&& (2147483647 : Int32))), .val (.int (p4 &&& (2147483647 : Int32))), .val (.ref b1), .unset, .unset, .unset, .unset, .unset, .unset, .unset, .unset, .unset, .unset, .unset, .unset, .unset, .unset, .unset] [])) rfl (hb hby at_37) (by decide) (by decide)
  obtain ⟨b6, gq6⟩ : ∃ z, z = T4.heap.size := ⟨_, rfl⟩
  rw [← gq6] at A6 D6 st6
  have ne7 : b1 ≠ b6 := Nat.ne_of_lt (Nat.lt_of_lt_of_le f5.lt (Nat.le_of_eq gq6.symm))
  have f8 : Exa Z h6 b1 "com/example/wardsum/wardsum/model/Cell" := f5.ext E6
  have f9 : Fld Z h6 b1 "com/example/wardsum/wardsum/model/Cell" "x" "I" (.int (p1 &&& (2147483647 : Int32))) := y4_0.ext E6
  have f10 : Fld Z h6 b1 "com/example/wardsum/wardsum/model/Cell" "y" "I" (.int (p2 &&& (2147483647 : Int32))) := y4_1.ext E6
  have g_b6 : n0 ≤ b6 := Nat.le_trans Zk4 (Nat.le_of_eq gq6.symm)
  have Z6 : n0 ≤ h6.size := Nat.le_trans Zk4 E6.1
  have f11 : Fld Z h6 b6 "com/example/wardsum/wardsum/model/Cell" "x" "I" (.int (0 : Int32)) := D6 (Or.inr (hw _ (List.mem_of_getElem? (i := 16) rfl))) (ty := .int) (by decide)
  have f12 : Fld Z h6 b6 "com/example/wardsum/wardsum/model/Cell" "y" "I" (.int (0 : Int32)) := D6 (Or.inr (hw _ (List.mem_of_getElem? (i := 18) rfl))) (ty := .int) (by decide)
  refine Done.step st6 ?_
  show Done p e below s _ _ _ (T6.setTop (mkF m 40 #[.val (.int p1), .val (.int p2), .val (.int p3), .val (.int p4), .val (.int (p1 &&& (2147483647 : Int32))), .val (.int (p2 &&& (2147483647 : Int32))), .val (.int (p3 &&& (2147483647 : Int32))), .val (.int (p4 &&& (2147483647 : Int32))), .val (.ref b1), .unset, .unset, .unset, .unset, .unset, .unset, .unset, .unset, .unset, .unset, .unset, .unset, .unset, .unset, .unset] [(.ref b6)]))
  refine Done.step (fun t k => XS.dup X6.here hx rfl (hb hby at_40) rfl rfl k) ?_
  show Done p e below s _ _ _ (T6.setTop (mkF m 41 #[.val (.int p1), .val (.int p2), .val (.int p3), .val (.int p4), .val (.int (p1 &&& (2147483647 : Int32))), .val (.int (p2 &&& (2147483647 : Int32))), .val (.int (p3 &&& (2147483647 : Int32))), .val (.int (p4 &&& (2147483647 : Int32))), .val (.ref b1), .unset, .unset, .unset, .unset, .unset, .unset, .unset, .unset, .unset, .unset, .unset, .unset, .unset, .unset, .unset] [(.ref b6), (.ref b6)]))
  refine Done.step (fun t k => XS.iload X6.here hx rfl (hb hby at_41) rfl k) ?_
  show Done p e below s _ _ _ (T6.setTop (mkF m 43 #[.val (.int p1), .val (.int p2), .val (.int p3), .val (.int p4), .val (.int (p1 &&& (2147483647 : Int32))), .val (.int (p2 &&& (2147483647 : Int32))), .val (.int (p3 &&& (2147483647 : Int32))), .val (.int (p4 &&& (2147483647 : Int32))), .val (.ref b1), .unset, .unset, .unset, .unset, .unset, .unset, .unset, .unset, .unset, .unset, .unset, .unset, .unset, .unset, .unset] [(.int (p3 &&& (2147483647 : Int32))), (.ref b6), (.ref b6)]))
  refine Done.step (fun t k => XS.iload X6.here hx rfl (hb hby at_43) rfl k) ?_
  show Done p e below s _ _ _ (T6.setTop (mkF m 45 #[.val (.int p1), .val (.int p2), .val (.int p3), .val (.int p4), .val (.int (p1 &&& (2147483647 : Int32))), .val (.int (p2 &&& (2147483647 : Int32))), .val (.int (p3 &&& (2147483647 : Int32))), .val (.int (p4 &&& (2147483647 : Int32))), .val (.ref b1), .unset, .unset, .unset, .unset, .unset, .unset, .unset, .unset, .unset, .unset, .unset, .unset, .unset, .unset, .unset] [(.int (p4 &&& (2147483647 : Int32))), (.int (p3 &&& (2147483647 : Int32))), (.ref b6), (.ref b6)]))
  obtain ⟨v13, _, ⟨T13, L13, k13, n13⟩, -, X13, ⟨Lc13, hQ13, l13, y13, z13⟩, st13⟩ := X6.specialBack hx (y := (⟨"com/example/wardsum/wardsum/model/Cell", "<init>", "(II)V"⟩ : MethodName)) rfl hown (mvT hZ (hw _ (List.mem_of_getElem? (i := 4) rfl))) (mvT hZ (hw _ (List.mem_of_getElem? (i := 5) rfl))) (mvT hZ (hw _ (List.mem_of_getElem? (i := 6) rfl))) (by decide) (backOf (W := 1) (rm1 l Z a0 hw [] b6 (p3 &&& (2147483647 : Int32)) (p4 &&& (2147483647 : Int32))  h6 n0 Z6 A6 f11 f12 g_b6) hZ (hw _ (List.mem_of_getElem? (i := 6) rfl)) (hw _ (List.mem_of_getElem? (i := 3) rfl)) (by decide) (by decide)) (g := (mkF m 45 #[.val (.int p1), .val (.int p2), .val (.int p3), .val (.int p4), .val (.int (p1 &&& (2147483647 : Int32))), .val (.int (p2 &&& (2147483647 : Int32))), .val (.int (p3 &&& (2147483647 : Int32))), .val (.int (p4 &&& (2147483647 : Int32))), .val (.ref b1), .unset, .unset, .unset, .unset, .unset, .unset, .unset, .unset, .unset, .unset, .unset, .unset, .unset, .unset, .unset] [(.int (p4 &&& (2147483647 : Int32))), (.int (p3 &&& (2147483647 : Int32))), (.ref b6), (.ref b6)])) rfl (by rw [hml]; rfl) (Steps.refl _) (a := b6) (argsL := [(.int (p3 &&& (2147483647 : Int32))), (.int (p4 &&& (2147483647 : Int32)))]) (rest := [(.ref b6)]) (lenOf pd_1 rfl) rfl (by show 2 * 0 + _ ≤ _; exact Nat.le_of_eq rfl) (hb hby at_45) (fun _ _ => ⟨rfl, e6, (by decide : 2 + 0 ≤ _), (by decide : 4 + 0 ≤ _)⟩)
  dsimp only [Pt.U, Pt.locs, Pt.cells, Pt.slots] at X13 l13 y13 z13 st13 hQ13
  subst l13 y13 z13
  refine Done.far st13 ?_
  obtain ⟨rfl, N13q, K13q, x13, y13_0, y13_1⟩ := hQ13
  have N13 := Fr.app N4 N13q
  have f14 : Exa Z T13.heap b1 "com/example/wardsum/wardsum/model/Cell" := f8.keep K13q
  have f15 : Fld Z T13.heap b1 "com/example/wardsum/wardsum/model/Cell" "x" "I" (.int (p1 &&& (2147483647 : Int32))) := f9.keep K13q (ninS ne7 nin0)
  have f16 : Fld Z T13.heap b1 "com/example/wardsum/wardsum/model/Cell" "y" "I" (.int (p2 &&& (2147483647 : Int32))) := f10.keep K13q (ninS ne7 nin0)
  have f17 : Exa Z T13.heap b6 "com/example/wardsum/wardsum/model/Cell" := A6.keep K13q
  have Zk13 : n0 ≤ T13.heap.size := Nat.le_trans Z6 K13q.1
  show Done p e below s _ _ _ (T13.setTop (mkF m 48 #[.val (.int p1), .val (.int p2), .val (.int p3), .val (.int p4), .val (.int (p1 &&& (2147483647 : Int32))), .val (.int (p2 &&& (2147483647 : Int32))), .val (.int (p3 &&& (2147483647 : Int32))), .val (.int (p4 &&& (2147483647 : Int32))), .val (.ref b1), .unset, .unset, .unset, .unset, .unset, .unset, .unset, .unset, .unset, .unset, .unset, .unset, .unset, .unset, .unset] [(.ref b6)]))
  refine Done.step (fun t k => XS.astore X13.here hx rfl (hb hby at_48) rfl rfl (l' := #[.val (.int p1), .val (.int p2), .val (.int p3), .val (.int p4), .val (.int (p1 &&& (2147483647 : Int32))), .val (.int (p2 &&& (2147483647 : Int32))), .val (.int (p3 &&& (2147483647 : Int32))), .val (.int (p4 &&& (2147483647 : Int32))), .val (.ref b1), .val (.ref b6), .unset, .unset, .unset, .unset, .unset, .unset, .unset, .unset, .unset, .unset, .unset, .unset, .unset, .unset]) rfl k) ?_
  show Done p e below s _ _ _ (T13.setTop (mkF m 50 #[.val (.int p1), .val (.int p2), .val (.int p3), .val (.int p4), .val (.int (p1 &&& (2147483647 : Int32))), .val (.int (p2 &&& (2147483647 : Int32))), .val (.int (p3 &&& (2147483647 : Int32))), .val (.int (p4 &&& (2147483647 : Int32))), .val (.ref b1), .val (.ref b6), .unset, .unset, .unset, .unset, .unset, .unset, .unset, .unset, .unset, .unset, .unset, .unset, .unset, .unset] []))
  refine Done.step (fun t k => XS.aload X13.here hx rfl (hb hby at_50) rfl rfl k) ?_
  show Done p e below s _ _ _ (T13.setTop (mkF m 52 #[.val (.int p1), .val (.int p2), .val (.int p3), .val (.int p4), .val (.int (p1 &&& (2147483647 : Int32))), .val (.int (p2 &&& (2147483647 : Int32))), .val (.int (p3 &&& (2147483647 : Int32))), .val (.int (p4 &&& (2147483647 : Int32))), .val (.ref b1), .val (.ref b6), .unset, .unset, .unset, .unset, .unset, .unset, .unset, .unset, .unset, .unset, .unset, .unset, .unset, .unset] [(.ref b1)]))
  refine Done.step (fun t k => XS.aload X13.here hx rfl (hb hby at_52) rfl rfl k) ?_
  show Done p e below s _ _ _ (T13.setTop (mkF m 54 #[.val (.int p1), .val (.int p2), .val (.int p3), .val (.int p4), .val (.int (p1 &&& (2147483647 : Int32))), .val (.int (p2 &&& (2147483647 : Int32))), .val (.int (p3 &&& (2147483647 : Int32))), .val (.int (p4 &&& (2147483647 : Int32))), .val (.ref b1), .val (.ref b6), .unset, .unset, .unset, .unset, .unset, .unset, .unset, .unset, .unset, .unset, .unset, .unset, .unset, .unset] [(.ref b6), (.ref b1)]))
  obtain ⟨cq18, kq18, q18a, q18b, q18c⟩ := isOf hZ rfl f14
  obtain ⟨v18, _, ⟨T18, L18, k18, n18⟩, -, X18, ⟨Lc18, hQ18, l18, y18, z18⟩, st18⟩ := X13.virtualBack hx (y := (⟨"com/example/wardsum/wardsum/model/Cell", "squaredDistanceTo", "(Lcom/example/wardsum/wardsum/model/Cell;)J"⟩ : MethodName)) (z := (⟨"com/example/wardsum/wardsum/model/Cell", "squaredDistanceTo", "(Lcom/example/wardsum/wardsum/model/Cell;)J"⟩ : MethodName)) hown (mvT hZ (hw _ (List.mem_of_getElem? (i := 19) rfl))) (mvT hZ (hw _ (List.mem_of_getElem? (i := 20) rfl))) (notFace_of_selects (args := #[]) (mvT hZ (hw _ (List.mem_of_getElem? (i := 22) rfl)))) (mvT hZ (hw _ (List.mem_of_getElem? (i := 22) rfl))) (mvT hZ (hw _ (List.mem_of_getElem? (i := 21) rfl))) (by decide) (backOf (W := 0) (rm4 l Z a0 hw [] b1 b6 (p1 &&& (2147483647 : Int32)) (p2 &&& (2147483647 : Int32)) (p3 &&& (2147483647 : Int32)) (p4 &&& (2147483647 : Int32)) T13.heap n0 Zk13 f15 f16 y13_0 y13_1) hZ (hw _ (List.mem_of_getElem? (i := 23) rfl)) (hw _ (List.mem_of_getElem? (i := 3) rfl)) (by decide) (by decide)) q18a q18c (g := (mkF m 54 #[.val (.int p1), .val (.int p2), .val (.int p3), .val (.int p4), .val (.int (p1 &&& (2147483647 : Int32))), .val (.int (p2 &&& (2147483647 : Int32))), .val (.int (p3 &&& (2147483647 : Int32))), .val (.int (p4 &&& (2147483647 : Int32))), .val (.ref b1), .val (.ref b6), .unset, .unset, .unset, .unset, .unset, .unset, .unset, .unset, .unset, .unset, .unset, .unset, .unset, .unset] [(.ref b6), (.ref b1)])) rfl (by rw [hml]; rfl) (Steps.refl _) (argsL := [(.ref b6)]) (rest := []) (lenOf pd_2 rfl) rfl (by show 2 * 0 + _ ≤ _; exact Nat.le_of_eq rfl) (hb hby at_54) (fun _ _ => ⟨rfl, rfl, (by decide : 2 + 0 ≤ _), (by decide : 4 + 0 ≤ _)⟩)
  dsimp only [Pt.U, Pt.locs, Pt.cells, Pt.slots] at X18 l18 y18 z18 st18 hQ18
  subst l18 y18 z18
  refine Done.far st18 ?_
  obtain ⟨rfl, N18q, e18⟩ := hQ18
  have N18 := Fr.app N13 N18q
  show Done p e below s _ _ _ (T18.setTop (mkF m 57 #[.val (.int p1), .val (.int p2), .val (.int p3), .val (.int p4), .val (.int (p1 &&& (2147483647 : Int32))), .val (.int (p2 &&& (2147483647 : Int32))), .val (.int (p3 &&& (2147483647 : Int32))), .val (.int (p4 &&& (2147483647 : Int32))), .val (.ref b1), .val (.ref b6), .unset, .unset, .unset, .unset, .unset, .unset, .unset, .unset, .unset, .unset, .unset, .unset, .unset, .unset] [(.long (F4 (p1 &&& (2147483647 : Int32)) (p2 &&& (2147483647 : Int32)) (p3 &&& (2147483647 : Int32)) (p4 &&& (2147483647 : Int32))))]))
  refine Done.step (fun t k => XS.lstore X18.here hx rfl (hb hby at_57) rfl (l' := #[.val (.int p1), .val (.int p2), .val (.int p3), .val (.int p4), .val (.int (p1 &&& (2147483647 : Int32))), .val (.int (p2 &&& (2147483647 : Int32))), .val (.int (p3 &&& (2147483647 : Int32))), .val (.int (p4 &&& (2147483647 : Int32))), .val (.ref b1), .val (.ref b6), .val (.long (F4 (p1 &&& (2147483647 : Int32)) (p2 &&& (2147483647 : Int32)) (p3 &&& (2147483647 : Int32)) (p4 &&& (2147483647 : Int32)))), .second, .unset, .unset, .unset, .unset, .unset, .unset, .unset, .unset, .unset, .unset, .unset, .unset]) rfl k) ?_
  show Done p e below s _ _ _ (T18.setTop (mkF m 59 #[.val (.int p1), .val (.int p2), .val (.int p3), .val (.int p4), .val (.int (p1 &&& (2147483647 : Int32))), .val (.int (p2 &&& (2147483647 : Int32))), .val (.int (p3 &&& (2147483647 : Int32))), .val (.int (p4 &&& (2147483647 : Int32))), .val (.ref b1), .val (.ref b6), .val (.long (F4 (p1 &&& (2147483647 : Int32)) (p2 &&& (2147483647 : Int32)) (p3 &&& (2147483647 : Int32)) (p4 &&& (2147483647 : Int32)))), .second, .unset, .unset, .unset, .unset, .unset, .unset, .unset, .unset, .unset, .unset, .unset, .unset] []))
  refine Done.step (fun t k => XS.aload X18.here hx rfl (hb hby at_59) rfl rfl k) ?_
  show Done p e below s _ _ _ (T18.setTop (mkF m 61 #[.val (.int p1), .val (.int p2), .val (.int p3), .val (.int p4), .val (.int (p1 &&& (2147483647 : Int32))), .val (.int (p2 &&& (2147483647 : Int32))), .val (.int (p3 &&& (2147483647 : Int32))), .val (.int (p4 &&& (2147483647 : Int32))), .val (.ref b1), .val (.ref b6), .val (.long (F4 (p1 &&& (2147483647 : Int32)) (p2 &&& (2147483647 : Int32)) (p3 &&& (2147483647 : Int32)) (p4 &&& (2147483647 : Int32)))), .second, .unset, .unset, .unset, .unset, .unset, .unset, .unset, .unset, .unset, .unset, .unset, .unset] [(.ref b6)]))
  refine Done.step (fun t k => XS.aload X18.here hx rfl (hb hby at_61) rfl rfl k) ?_
  show Done p e below s _ _ _ (T18.setTop (mkF m 63 #[.val (.int p1), .val (.int p2), .val (.int p3), .val (.int p4), .val (.int (p1 &&& (2147483647 : Int32))), .val (.int (p2 &&& (2147483647 : Int32))), .val (.int (p3 &&& (2147483647 : Int32))), .val (.int (p4 &&& (2147483647 : Int32))), .val (.ref b1), .val (.ref b6), .val (.long (F4 (p1 &&& (2147483647 : Int32)) (p2 &&& (2147483647 : Int32)) (p3 &&& (2147483647 : Int32)) (p4 &&& (2147483647 : Int32)))), .second, .unset, .unset, .unset, .unset, .unset, .unset, .unset, .unset, .unset, .unset, .unset, .unset] [(.ref b1), (.ref b6)]))
  obtain ⟨cq19, kq19, q19a, q19b, q19c⟩ := isOf hZ e18 f17
  obtain ⟨v19, _, ⟨T19, L19, k19, n19⟩, -, X19, ⟨Lc19, hQ19, l19, y19, z19⟩, st19⟩ := X18.virtualBack hx (y := (⟨"com/example/wardsum/wardsum/model/Cell", "squaredDistanceTo", "(Lcom/example/wardsum/wardsum/model/Cell;)J"⟩ : MethodName)) (z := (⟨"com/example/wardsum/wardsum/model/Cell", "squaredDistanceTo", "(Lcom/example/wardsum/wardsum/model/Cell;)J"⟩ : MethodName)) hown (mvT hZ (hw _ (List.mem_of_getElem? (i := 19) rfl))) (mvT hZ (hw _ (List.mem_of_getElem? (i := 20) rfl))) (notFace_of_selects (args := #[]) (mvT hZ (hw _ (List.mem_of_getElem? (i := 22) rfl)))) (mvT hZ (hw _ (List.mem_of_getElem? (i := 22) rfl))) (mvT hZ (hw _ (List.mem_of_getElem? (i := 21) rfl))) (by decide) (backOf (W := 0) (rm4 l Z a0 hw [] b6 b1 (p3 &&& (2147483647 : Int32)) (p4 &&& (2147483647 : Int32)) (p1 &&& (2147483647 : Int32)) (p2 &&& (2147483647 : Int32)) T13.heap n0 Zk13 y13_0 y13_1 f15 f16) hZ (hw _ (List.mem_of_getElem? (i := 23) rfl)) (hw _ (List.mem_of_getElem? (i := 3) rfl)) (by decide) (by decide)) q19a q19c (g := (mkF m 63 #[.val (.int p1), .val (.int p2), .val (.int p3), .val (.int p4), .val (.int (p1 &&& (2147483647 : Int32))), .val (.int (p2 &&& (2147483647 : Int32))), .val (.int (p3 &&& (2147483647 : Int32))), .val (.int (p4 &&& (2147483647 : Int32))), .val (.ref b1), .val (.ref b6), .val (.long (F4 (p1 &&& (2147483647 : Int32)) (p2 &&& (2147483647 : Int32)) (p3 &&& (2147483647 : Int32)) (p4 &&& (2147483647 : Int32)))), .second, .unset, .unset, .unset, .unset, .unset, .unset, .unset, .unset, .unset, .unset, .unset, .unset] [(.ref b1), (.ref b6)])) rfl (by rw [hml]; rfl) (Steps.refl _) (argsL := [(.ref b1)]) (rest := []) (lenOf pd_2 rfl) rfl (by show 2 * 0 + _ ≤ _; exact Nat.le_of_eq rfl) (hb hby at_63) (fun _ _ => ⟨rfl, e18, (by decide : 2 + 0 ≤ _), (by decide : 4 + 0 ≤ _)⟩)
  dsimp only [Pt.U, Pt.locs, Pt.cells, Pt.slots] at X19 l19 y19 z19 st19 hQ19
  subst l19 y19 z19
  refine Done.far st19 ?_
  obtain ⟨rfl, N19q, e19⟩ := hQ19
  have N19 := Fr.app N18 N19q
  show Done p e below s _ _ _ (T19.setTop (mkF m 66 #[.val (.int p1), .val (.int p2), .val (.int p3), .val (.int p4), .val (.int (p1 &&& (2147483647 : Int32))), .val (.int (p2 &&& (2147483647 : Int32))), .val (.int (p3 &&& (2147483647 : Int32))), .val (.int (p4 &&& (2147483647 : Int32))), .val (.ref b1), .val (.ref b6), .val (.long (F4 (p1 &&& (2147483647 : Int32)) (p2 &&& (2147483647 : Int32)) (p3 &&& (2147483647 : Int32)) (p4 &&& (2147483647 : Int32)))), .second, .unset, .unset, .unset, .unset, .unset, .unset, .unset, .unset, .unset, .unset, .unset, .unset] [(.long (F4 (p3 &&& (2147483647 : Int32)) (p4 &&& (2147483647 : Int32)) (p1 &&& (2147483647 : Int32)) (p2 &&& (2147483647 : Int32))))]))
  refine Done.step (fun t k => XS.lstore X19.here hx rfl (hb hby at_66) rfl (l' := #[.val (.int p1), .val (.int p2), .val (.int p3), .val (.int p4), .val (.int (p1 &&& (2147483647 : Int32))), .val (.int (p2 &&& (2147483647 : Int32))), .val (.int (p3 &&& (2147483647 : Int32))), .val (.int (p4 &&& (2147483647 : Int32))), .val (.ref b1), .val (.ref b6), .val (.long (F4 (p1 &&& (2147483647 : Int32)) (p2 &&& (2147483647 : Int32)) (p3 &&& (2147483647 : Int32)) (p4 &&& (2147483647 : Int32)))), .second, .val (.long (F4 (p3 &&& (2147483647 : Int32)) (p4 &&& (2147483647 : Int32)) (p1 &&& (2147483647 : Int32)) (p2 &&& (2147483647 : Int32)))), .second, .unset, .unset, .unset, .unset, .unset, .unset, .unset, .unset, .unset, .unset]) rfl k) ?_
  show Done p e below s _ _ _ (T19.setTop (mkF m 68 #[.val (.int p1), .val (.int p2), .val (.int p3), .val (.int p4), .val (.int (p1 &&& (2147483647 : Int32))), .val (.int (p2 &&& (2147483647 : Int32))), .val (.int (p3 &&& (2147483647 : Int32))), .val (.int (p4 &&& (2147483647 : Int32))), .val (.ref b1), .val (.ref b6), .val (.long (F4 (p1 &&& (2147483647 : Int32)) (p2 &&& (2147483647 : Int32)) (p3 &&& (2147483647 : Int32)) (p4 &&& (2147483647 : Int32)))), .second, .val (.long (F4 (p3 &&& (2147483647 : Int32)) (p4 &&& (2147483647 : Int32)) (p1 &&& (2147483647 : Int32)) (p2 &&& (2147483647 : Int32)))), .second, .unset, .unset, .unset, .unset, .unset, .unset, .unset, .unset, .unset, .unset] []))
  refine Done.step (fun t k => XS.iload X19.here hx rfl (hb hby at_68) rfl k) ?_
  show Done p e below s _ _ _ (T19.setTop (mkF m 70 #[.val (.int p1), .val (.int p2), .val (.int p3), .val (.int p4), .val (.int (p1 &&& (2147483647 : Int32))), .val (.int (p2 &&& (2147483647 : Int32))), .val (.int (p3 &&& (2147483647 : Int32))), .val (.int (p4 &&& (2147483647 : Int32))), .val (.ref b1), .val (.ref b6), .val (.long (F4 (p1 &&& (2147483647 : Int32)) (p2 &&& (2147483647 : Int32)) (p3 &&& (2147483647 : Int32)) (p4 &&& (2147483647 : Int32)))), .second, .val (.long (F4 (p3 &&& (2147483647 : Int32)) (p4 &&& (2147483647 : Int32)) (p1 &&& (2147483647 : Int32)) (p2 &&& (2147483647 : Int32)))), .second, .unset, .unset, .unset, .unset, .unset, .unset, .unset, .unset, .unset, .unset] [(.int (p1 &&& (2147483647 : Int32)))]))
  refine Done.step (fun t k => XS.i2l X19.here hx rfl (hb hby at_70) rfl k) ?_
  show Done p e below s _ _ _ (T19.setTop (mkF m 71 #[.val (.int p1), .val (.int p2), .val (.int p3), .val (.int p4), .val (.int (p1 &&& (2147483647 : Int32))), .val (.int (p2 &&& (2147483647 : Int32))), .val (.int (p3 &&& (2147483647 : Int32))), .val (.int (p4 &&& (2147483647 : Int32))), .val (.ref b1), .val (.ref b6), .val (.long (F4 (p1 &&& (2147483647 : Int32)) (p2 &&& (2147483647 : Int32)) (p3 &&& (2147483647 : Int32)) (p4 &&& (2147483647 : Int32)))), .second, .val (.long (F4 (p3 &&& (2147483647 : Int32)) (p4 &&& (2147483647 : Int32)) (p1 &&& (2147483647 : Int32)) (p2 &&& (2147483647 : Int32)))), .second, .unset, .unset, .unset, .unset, .unset, .unset, .unset, .unset, .unset, .unset] [(.long ((p1 &&& (2147483647 : Int32))).toInt64)]))
  refine Done.step (fun t k => XS.lstore X19.here hx rfl (hb hby at_71) rfl (l' := #[.val (.int p1), .val (.int p2), .val (.int p3), .val (.int p4), .val (.int (p1 &&& (2147483647 : Int32))), .val (.int (p2 &&& (2147483647 : Int32))), .val (.int (p3 &&& (2147483647 : Int32))), .val (.int (p4 &&& (2147483647 : Int32))), .val (.ref b1), .val (.ref b6), .val (.long (F4 (p1 &&& (2147483647 : Int32)) (p2 &&& (2147483647 : Int32)) (p3 &&& (2147483647 : Int32)) (p4 &&& (2147483647 : Int32)))), .second, .val (.long (F4 (p3 &&& (2147483647 : Int32)) (p4 &&& (2147483647 : Int32)) (p1 &&& (2147483647 : Int32)) (p2 &&& (2147483647 : Int32)))), .second, .val (.long ((p1 &&& (2147483647 : Int32))).toInt64), .second, .unset, .unset, .unset, .unset, .unset, .unset, .unset, .unset]) rfl k) ?_
  show Done p e below s _ _ _ (T19.setTop (mkF m 73 #[.val (.int p1), .val (.int p2), .val (.int p3), .val (.int p4), .val (.int (p1 &&& (2147483647 : Int32))), .val (.int (p2 &&& (2147483647 : Int32))), .val (.int (p3 &&& (2147483647 : Int32))), .val (.int (p4 &&& (2147483647 : Int32))), .val (.ref b1), .val (.ref b6), .val (.long (F4 (p1 &&& (2147483647 : Int32)) (p2 &&& (2147483647 : Int32)) (p3 &&& (2147483647 : Int32)) (p4 &&& (2147483647 : Int32)))), .second, .val (.long (F4 (p3 &&& (2147483647 : Int32)) (p4 &&& (2147483647 : Int32)) (p1 &&& (2147483647 : Int32)) (p2 &&& (2147483647 : Int32)))), .second, .val (.long ((p1 &&& (2147483647 : Int32))).toInt64), .second, .unset, .unset, .unset, .unset, .unset, .unset, .unset, .unset] []))
  refine Done.step (fun t k => XS.iload X19.here hx rfl (hb hby at_73) rfl k) ?_
  show Done p e below s _ _ _ (T19.setTop (mkF m 75 #[.val (.int p1), .val (.int p2), .val (.int p3), .val (.int p4), .val (.int (p1 &&& (2147483647 : Int32))), .val (.int (p2 &&& (2147483647 : Int32))), .val (.int (p3 &&& (2147483647 : Int32))), .val (.int (p4 &&& (2147483647 : Int32))), .val (.ref b1), .val (.ref b6), .val (.long (F4 (p1 &&& (2147483647 : Int32)) (p2 &&& (2147483647 : Int32)) (p3 &&& (2147483647 : Int32)) (p4 &&& (2147483647 : Int32)))), .second, .val (.long (F4 (p3 &&& (2147483647 : Int32)) (p4 &&& (2147483647 : Int32)) (p1 &&& (2147483647 : Int32)) (p2 &&& (2147483647 : Int32)))), .second, .val (.long ((p1 &&& (2147483647 : Int32))).toInt64), .second, .unset, .unset, .unset, .unset, .unset, .unset, .unset, .unset] [(.int (p2 &&& (2147483647 : Int32)))]))
  refine Done.step (fun t k => XS.i2l X19.here hx rfl (hb hby at_75) rfl k) ?_
  show Done p e below s _ _ _ (T19.setTop (mkF m 76 #[.val (.int p1), .val (.int p2), .val (.int p3), .val (.int p4), .val (.int (p1 &&& (2147483647 : Int32))), .val (.int (p2 &&& (2147483647 : Int32))), .val (.int (p3 &&& (2147483647 : Int32))), .val (.int (p4 &&& (2147483647 : Int32))), .val (.ref b1), .val (.ref b6), .val (.long (F4 (p1 &&& (2147483647 : Int32)) (p2 &&& (2147483647 : Int32)) (p3 &&& (2147483647 : Int32)) (p4 &&& (2147483647 : Int32)))), .second, .val (.long (F4 (p3 &&& (2147483647 : Int32)) (p4 &&& (2147483647 : Int32)) (p1 &&& (2147483647 : Int32)) (p2 &&& (2147483647 : Int32)))), .second, .val (.long ((p1 &&& (2147483647 : Int32))).toInt64), .second, .unset, .unset, .unset, .unset, .unset, .unset, .unset, .unset] [(.long ((p2 &&& (2147483647 : Int32))).toInt64)]))
  refine Done.step (fun t k => XS.lstore X19.here hx rfl (hb hby at_76) rfl (l' := #[.val (.int p1), .val (.int p2), .val (.int p3), .val (.int p4), .val (.int (p1 &&& (2147483647 : Int32))), .val (.int (p2 &&& (2147483647 : Int32))), .val (.int (p3 &&& (2147483647 : Int32))), .val (.int (p4 &&& (2147483647 : Int32))), .val (.ref b1), .val (.ref b6), .val (.long (F4 (p1 &&& (2147483647 : Int32)) (p2 &&& (2147483647 : Int32)) (p3 &&& (2147483647 : Int32)) (p4 &&& (2147483647 : Int32)))), .second, .val (.long (F4 (p3 &&& (2147483647 : Int32)) (p4 &&& (2147483647 : Int32)) (p1 &&& (2147483647 : Int32)) (p2 &&& (2147483647 : Int32)))), .second, .val (.long ((p1 &&& (2147483647 : Int32))).toInt64), .second, .val (.long ((p2 &&& (2147483647 : Int32))).toInt64), .second, .unset, .unset, .unset, .unset, .unset, .unset]) rfl k) ?_
  show Done p e below s _ _ _ (T19.setTop (mkF m 78 #[.val (.int p1), .val (.int p2), .val (.int p3), .val (.int p4), .val (.int (p1 &&& (2147483647 : Int32))), .val (.int (p2 &&& (2147483647 : Int32))), .val (.int (p3 &&& (2147483647 : Int32))), .val (.int (p4 &&& (2147483647 : Int32))), .val (.ref b1), .val (.ref b6), .val (.long (F4 (p1 &&& (2147483647 : Int32)) (p2 &&& (2147483647 : Int32)) (p3 &&& (2147483647 : Int32)) (p4 &&& (2147483647 : Int32)))), .second, .val (.long (F4 (p3 &&& (2147483647 : Int32)) (p4 &&& (2147483647 : Int32)) (p1 &&& (2147483647 : Int32)) (p2 &&& (2147483647 : Int32)))), .second, .val (.long ((p1 &&& (2147483647 : Int32))).toInt64), .second, .val (.long ((p2 &&& (2147483647 : Int32))).toInt64), .second, .unset, .unset, .unset, .unset, .unset, .unset] []))
  refine Done.step (fun t k => XS.iload X19.here hx rfl (hb hby at_78) rfl k) ?_
  show Done p e below s _ _ _ (T19.setTop (mkF m 80 #[.val (.int p1), .val (.int p2), .val (.int p3), .val (.int p4), .val (.int (p1 &&& (2147483647 : Int32))), .val (.int (p2 &&& (2147483647 : Int32))), .val (.int (p3 &&& (2147483647 : Int32))), .val (.int (p4 &&& (2147483647 : Int32))), .val (.ref b1), .val (.ref b6), .val (.long (F4 (p1 &&& (2147483647 : Int32)) (p2 &&& (2147483647 : Int32)) (p3 &&& (2147483647 : Int32)) (p4 &&& (2147483647 : Int32)))), .second, .val (.long (F4 (p3 &&& (2147483647 : Int32)) (p4 &&& (2147483647 : Int32)) (p1 &&& (2147483647 : Int32)) (p2 &&& (2147483647 : Int32)))), .second, .val (.long ((p1 &&& (2147483647 : Int32))).toInt64), .second, .val (.long ((p2 &&& (2147483647 : Int32))).toInt64), .second, .unset, .unset, .unset, .unset, .unset, .unset] [(.int (p3 &&& (2147483647 : Int32)))]))
  refine Done.step (fun t k => XS.i2l X19.here hx rfl (hb hby at_80) rfl k) ?_
  show Done p e below s _ _ _ (T19.setTop (mkF m 81 #[.val (.int p1), .val (.int p2), .val (.int p3), .val (.int p4), .val (.int (p1 &&& (2147483647 : Int32))), .val (.int (p2 &&& (2147483647 : Int32))), .val (.int (p3 &&& (2147483647 : Int32))), .val (.int (p4 &&& (2147483647 : Int32))), .val (.ref b1), .val (.ref b6), .val (.long (F4 (p1 &&& (2147483647 : Int32)) (p2 &&& (2147483647 : Int32)) (p3 &&& (2147483647 : Int32)) (p4 &&& (2147483647 : Int32)))), .second, .val (.long (F4 (p3 &&& (2147483647 : Int32)) (p4 &&& (2147483647 : Int32)) (p1 &&& (2147483647 : Int32)) (p2 &&& (2147483647 : Int32)))), .second, .val (.long ((p1 &&& (2147483647 : Int32))).toInt64), .second, .val (.long ((p2 &&& (2147483647 : Int32))).toInt64), .second, .unset, .unset, .unset, .unset, .unset, .unset] [(.long ((p3 &&& (2147483647 : Int32))).toInt64)]))
  refine Done.step (fun t k => XS.lstore X19.here hx rfl (hb hby at_81) rfl (l' := #[.val (.int p1), .val (.int p2), .val (.int p3), .val (.int p4), .val (.int (p1 &&& (2147483647 : Int32))), .val (.int (p2 &&& (2147483647 : Int32))), .val (.int (p3 &&& (2147483647 : Int32))), .val (.int (p4 &&& (2147483647 : Int32))), .val (.ref b1), .val (.ref b6), .val (.long (F4 (p1 &&& (2147483647 : Int32)) (p2 &&& (2147483647 : Int32)) (p3 &&& (2147483647 : Int32)) (p4 &&& (2147483647 : Int32)))), .second, .val (.long (F4 (p3 &&& (2147483647 : Int32)) (p4 &&& (2147483647 : Int32)) (p1 &&& (2147483647 : Int32)) (p2 &&& (2147483647 : Int32)))), .second, .val (.long ((p1 &&& (2147483647 : Int32))).toInt64), .second, .val (.long ((p2 &&& (2147483647 : Int32))).toInt64), .second, .val (.long ((p3 &&& (2147483647 : Int32))).toInt64), .second, .unset, .unset, .unset, .unset]) rfl k) ?_
  show Done p e below s _ _ _ (T19.setTop (mkF m 83 #[.val (.int p1), .val (.int p2), .val (.int p3), .val (.int p4), .val (.int (p1 &&& (2147483647 : Int32))), .val (.int (p2 &&& (2147483647 : Int32))), .val (.int (p3 &&& (2147483647 : Int32))), .val (.int (p4 &&& (2147483647 : Int32))), .val (.ref b1), .val (.ref b6), .val (.long (F4 (p1 &&& (2147483647 : Int32)) (p2 &&& (2147483647 : Int32)) (p3 &&& (2147483647 : Int32)) (p4 &&& (2147483647 : Int32)))), .second, .val (.long (F4 (p3 &&& (2147483647 : Int32)) (p4 &&& (2147483647 : Int32)) (p1 &&& (2147483647 : Int32)) (p2 &&& (2147483647 : Int32)))), .second, .val (.long ((p1 &&& (2147483647 : Int32))).toInt64), .second, .val (.long ((p2 &&& (2147483647 : Int32))).toInt64), .second, .val (.long ((p3 &&& (2147483647 : Int32))).toInt64), .second, .unset, .unset, .unset, .unset] []))
  refine Done.step (fun t k => XS.iload X19.here hx rfl (hb hby at_83) rfl k) ?_
  show Done p e below s _ _ _ (T19.setTop (mkF m 85 #[.val (.int p1), .val (.int p2), .val (.int p3), .val (.int p4), .val (.int (p1 &&& (2147483647 : Int32))), .val (.int (p2 &&& (2147483647 : Int32))), .val (.int (p3 &&& (2147483647 : Int32))), .val (.int (p4 &&& (2147483647 : Int32))), .val (.ref b1), .val (.ref b6), .val (.long (F4 (p1 &&& (2147483647 : Int32)) (p2 &&& (2147483647 : Int32)) (p3 &&& (2147483647 : Int32)) (p4 &&& (2147483647 : Int32)))), .second, .val (.long (F4 (p3 &&& (2147483647 : Int32)) (p4 &&& (2147483647 : Int32)) (p1 &&& (2147483647 : Int32)) (p2 &&& (2147483647 : Int32)))), .second, .val (.long ((p1 &&& (2147483647 : Int32))).toInt64), .second, .val (.long ((p2 &&& (2147483647 : Int32))).toInt64), .second, .val (.long ((p3 &&& (2147483647 : Int32))).toInt64), .second, .unset, .unset, .unset, .unset] [(.int (p4 &&& (2147483647 : Int32)))]))
  refine Done.step (fun t k => XS.i2l X19.here hx rfl (hb hby at_85) rfl k) ?_
  show Done p e below s _ _ _ (T19.setTop (mkF m 86 #[.val (.int p1), .val (.int p2), .val (.int p3), .val (.int p4), .val (.int (p1 &&& (2147483647 : Int32))), .val (.int (p2 &&& (2147483647 : Int32))), .val (.int (p3 &&& (2147483647 : Int32))), .val (.int (p4 &&& (2147483647 : Int32))), .val (.ref b1), .val (.ref b6), .val (.long (F4 (p1 &&& (2147483647 : Int32)) (p2 &&& (2147483647 : Int32)) (p3 &&& (2147483647 : Int32)) (p4 &&& (2147483647 : Int32)))), .second, .val (.long (F4 (p3 &&& (2147483647 : Int32)) (p4 &&& (2147483647 : Int32)) (p1 &&& (2147483647 : Int32)) (p2 &&& (2147483647 : Int32)))), .second, .val (.long ((p1 &&& (2147483647 : Int32))).toInt64), .second, .val (.long ((p2 &&& (2147483647 : Int32))).toInt64), .second, .val (.long ((p3 &&& (2147483647 : Int32))).toInt64), .second, .unset, .unset, .unset, .unset] [(.long ((p4 &&& (2147483647 : Int32))).toInt64)]))
  refine Done.step (fun t k => XS.lstore X19.here hx rfl (hb hby at_86) rfl (l' := #[.val (.int p1), .val (.int p2), .val (.int p3), .val (.int p4), .val (.int (p1 &&& (2147483647 : Int32))), .val (.int (p2 &&& (2147483647 : Int32))), .val (.int (p3 &&& (2147483647 : Int32))), .val (.int (p4 &&& (2147483647 : Int32))), .val (.ref b1), .val (.ref b6), .val (.long (F4 (p1 &&& (2147483647 : Int32)) (p2 &&& (2147483647 : Int32)) (p3 &&& (2147483647 : Int32)) (p4 &&& (2147483647 : Int32)))), .second, .val (.long (F4 (p3 &&& (2147483647 : Int32)) (p4 &&& (2147483647 : Int32)) (p1 &&& (2147483647 : Int32)) (p2 &&& (2147483647 : Int32)))), .second, .val (.long ((p1 &&& (2147483647 : Int32))).toInt64), .second, .val (.long ((p2 &&& (2147483647 : Int32))).toInt64), .second, .val (.long ((p3 &&& (2147483647 : Int32))).toInt64), .second, .val (.long ((p4 &&& (2147483647 : Int32))).toInt64), .second, .unset, .unset]) rfl k) ?_
  show Done p e below s _ _ _ (T19.setTop (mkF m 88 #[.val (.int p1), .val (.int p2), .val (.int p3), .val (.int p4), .val (.int (p1 &&& (2147483647 : Int32))), .val (.int (p2 &&& (2147483647 : Int32))), .val (.int (p3 &&& (2147483647 : Int32))), .val (.int (p4 &&& (2147483647 : Int32))), .val (.ref b1), .val (.ref b6), .val (.long (F4 (p1 &&& (2147483647 : Int32)) (p2 &&& (2147483647 : Int32)) (p3 &&& (2147483647 : Int32)) (p4 &&& (2147483647 : Int32)))), .second, .val (.long (F4 (p3 &&& (2147483647 : Int32)) (p4 &&& (2147483647 : Int32)) (p1 &&& (2147483647 : Int32)) (p2 &&& (2147483647 : Int32)))), .second, .val (.long ((p1 &&& (2147483647 : Int32))).toInt64), .second, .val (.long ((p2 &&& (2147483647 : Int32))).toInt64), .second, .val (.long ((p3 &&& (2147483647 : Int32))).toInt64), .second, .val (.long ((p4 &&& (2147483647 : Int32))).toInt64), .second, .unset, .unset] []))
  refine Done.step (fun t k => XS.lload X19.here hx rfl (hb hby at_88) rfl k) ?_
  show Done p e below s _ _ _ (T19.setTop (mkF m 90 #[.val (.int p1), .val (.int p2), .val (.int p3), .val (.int p4), .val (.int (p1 &&& (2147483647 : Int32))), .val (.int (p2 &&& (2147483647 : Int32))), .val (.int (p3 &&& (2147483647 : Int32))), .val (.int (p4 &&& (2147483647 : Int32))), .val (.ref b1), .val (.ref b6), .val (.long (F4 (p1 &&& (2147483647 : Int32)) (p2 &&& (2147483647 : Int32)) (p3 &&& (2147483647 : Int32)) (p4 &&& (2147483647 : Int32)))), .second, .val (.long (F4 (p3 &&& (2147483647 : Int32)) (p4 &&& (2147483647 : Int32)) (p1 &&& (2147483647 : Int32)) (p2 &&& (2147483647 : Int32)))), .second, .val (.long ((p1 &&& (2147483647 : Int32))).toInt64), .second, .val (.long ((p2 &&& (2147483647 : Int32))).toInt64), .second, .val (.long ((p3 &&& (2147483647 : Int32))).toInt64), .second, .val (.long ((p4 &&& (2147483647 : Int32))).toInt64), .second, .unset, .unset] [(.long ((p1 &&& (2147483647 : Int32))).toInt64)]))
  refine Done.step (fun t k => XS.lload X19.here hx rfl (hb hby at_90) rfl k) ?_
  show Done p e below s _ _ _ (T19.setTop (mkF m 92 #[.val (.int p1), .val (.int p2), .val (.int p3), .val (.int p4), .val (.int (p1 &&& (2147483647 : Int32))), .val (.int (p2 &&& (2147483647 : Int32))), .val (.int (p3 &&& (2147483647 : Int32))), .val (.int (p4 &&& (2147483647 : Int32))), .val (.ref b1), .val (.ref b6), .val (.long (F4 (p1 &&& (2147483647 : Int32)) (p2 &&& (2147483647 : Int32)) (p3 &&& (2147483647 : Int32)) (p4 &&& (2147483647 : Int32)))), .second, .val (.long (F4 (p3 &&& (2147483647 : Int32)) (p4 &&& (2147483647 : Int32)) (p1 &&& (2147483647 : Int32)) (p2 &&& (2147483647 : Int32)))), .second, .val (.long ((p1 &&& (2147483647 : Int32))).toInt64), .second, .val (.long ((p2 &&& (2147483647 : Int32))).toInt64), .second, .val (.long ((p3 &&& (2147483647 : Int32))).toInt64), .second, .val (.long ((p4 &&& (2147483647 : Int32))).toInt64), .second, .unset, .unset] [(.long ((p1 &&& (2147483647 : Int32))).toInt64), (.long ((p1 &&& (2147483647 : Int32))).toInt64)]))
  refine Done.step (fun t k => XS.lmul X19.here hx rfl (hb hby at_92) rfl k) ?_
  show Done p e below s _ _ _ (T19.setTop (mkF m 93 #[.val (.int p1), .val (.int p2), .val (.int p3), .val (.int p4), .val (.int (p1 &&& (2147483647 : Int32))), .val (.int (p2 &&& (2147483647 : Int32))), .val (.int (p3 &&& (2147483647 : Int32))), .val (.int (p4 &&& (2147483647 : Int32))), .val (.ref b1), .val (.ref b6), .val (.long (F4 (p1 &&& (2147483647 : Int32)) (p2 &&& (2147483647 : Int32)) (p3 &&& (2147483647 : Int32)) (p4 &&& (2147483647 : Int32)))), .second, .val (.long (F4 (p3 &&& (2147483647 : Int32)) (p4 &&& (2147483647 : Int32)) (p1 &&& (2147483647 : Int32)) (p2 &&& (2147483647 : Int32)))), .second, .val (.long ((p1 &&& (2147483647 : Int32))).toInt64), .second, .val (.long ((p2 &&& (2147483647 : Int32))).toInt64), .second, .val (.long ((p3 &&& (2147483647 : Int32))).toInt64), .second, .val (.long ((p4 &&& (2147483647 : Int32))).toInt64), .second, .unset, .unset] [(.long (((p1 &&& (2147483647 : Int32))).toInt64 * ((p1 &&& (2147483647 : Int32))).toInt64))]))
  refine Done.step (fun t k => XS.lload X19.here hx rfl (hb hby at_93) rfl k) ?_
  show Done p e below s _ _ _ (T19.setTop (mkF m 95 #[.val (.int p1), .val (.int p2), .val (.int p3), .val (.int p4), .val (.int (p1 &&& (2147483647 : Int32))), .val (.int (p2 &&& (2147483647 : Int32))), .val (.int (p3 &&& (2147483647 : Int32))), .val (.int (p4 &&& (2147483647 : Int32))), .val (.ref b1), .val (.ref b6), .val (.long (F4 (p1 &&& (2147483647 : Int32)) (p2 &&& (2147483647 : Int32)) (p3 &&& (2147483647 : Int32)) (p4 &&& (2147483647 : Int32)))), .second, .val (.long (F4 (p3 &&& (2147483647 : Int32)) (p4 &&& (2147483647 : Int32)) (p1 &&& (2147483647 : Int32)) (p2 &&& (2147483647 : Int32)))), .second, .val (.long ((p1 &&& (2147483647 : Int32))).toInt64), .second, .val (.long ((p2 &&& (2147483647 : Int32))).toInt64), .second, .val (.long ((p3 &&& (2147483647 : Int32))).toInt64), .second, .val (.long ((p4 &&& (2147483647 : Int32))).toInt64), .second, .unset, .unset] [(.long ((p3 &&& (2147483647 : Int32))).toInt64), (.long (((p1 &&& (2147483647 : Int32))).toInt64 * ((p1 &&& (2147483647 : Int32))).toInt64))]))
  refine Done.step (fun t k => XS.lload X19.here hx rfl (hb hby at_95) rfl k) ?_
  show Done p e below s _ _ _ (T19.setTop (mkF m 97 #[.val (.int p1), .val (.int p2), .val (.int p3), .val (.int p4), .val (.int (p1 &&& (2147483647 : Int32))), .val (.int (p2 &&& (2147483647 : Int32))), .val (.int (p3 &&& (2147483647 : Int32))), .val (.int (p4 &&& (2147483647 : Int32))), .val (.ref b1), .val (.ref b6), .val (.long (F4 (p1 &&& (2147483647 : Int32)) (p2 &&& (2147483647 : Int32)) (p3 &&& (2147483647 : Int32)) (p4 &&& (2147483647 : Int32)))), .second, .val (.long (F4 (p3 &&& (2147483647 : Int32)) (p4 &&& (2147483647 : Int32)) (p1 &&& (2147483647 : Int32)) (p2 &&& (2147483647 : Int32)))), .second, .val (.long ((p1 &&& (2147483647 : Int32))).toInt64), .second, .val (.long ((p2 &&& (2147483647 : Int32))).toInt64), .second, .val (.long ((p3 &&& (2147483647 : Int32))).toInt64), .second, .val (.long ((p4 &&& (2147483647 : Int32))).toInt64), .second, .unset, .unset] [(.long ((p3 &&& (2147483647 : Int32))).toInt64), (.long ((p3 &&& (2147483647 : Int32))).toInt64), (.long (((p1 &&& (2147483647 : Int32))).toInt64 * ((p1 &&& (2147483647 : Int32))).toInt64))]))
  refine Done.step (fun t k => XS.lmul X19.here hx rfl (hb hby at_97) rfl k) ?_
  show Done p e below s _ _ _ (T19.setTop (mkF m 98 #[.val (.int p1), .val (.int p2), .val (.int p3), .val (.int p4), .val (.int (p1 &&& (2147483647 : Int32))), .val (.int (p2 &&& (2147483647 : Int32))), .val (.int (p3 &&& (2147483647 : Int32))), .val (.int (p4 &&& (2147483647 : Int32))), .val (.ref b1), .val (.ref b6), .val (.long (F4 (p1 &&& (2147483647 : Int32)) (p2 &&& (2147483647 : Int32)) (p3 &&& (2147483647 : Int32)) (p4 &&& (2147483647 : Int32)))), .second, .val (.long (F4 (p3 &&& (2147483647 : Int32)) (p4 &&& (2147483647 : Int32)) (p1 &&& (2147483647 : Int32)) (p2 &&& (2147483647 : Int32)))), .second, .val (.long ((p1 &&& (2147483647 : Int32))).toInt64), .second, .val (.long ((p2 &&& (2147483647 : Int32))).toInt64), .second, .val (.long ((p3 &&& (2147483647 : Int32))).toInt64), .second, .val (.long ((p4 &&& (2147483647 : Int32))).toInt64), .second, .unset, .unset] [(.long (((p3 &&& (2147483647 : Int32))).toInt64 * ((p3 &&& (2147483647 : Int32))).toInt64)), (.long (((p1 &&& (2147483647 : Int32))).toInt64 * ((p1 &&& (2147483647 : Int32))).toInt64))]))
  refine Done.step (fun t k => XS.ladd X19.here hx rfl (hb hby at_98) rfl k) ?_
  show Done p e below s _ _ _ (T19.setTop (mkF m 99 #[.val (.int p1), .val (.int p2), .val (.int p3), .val (.int p4), .val (.int (p1 &&& (2147483647 : Int32))), .val (.int (p2 &&& (2147483647 : Int32))), .val (.int (p3 &&& (2147483647 : Int32))), .val (.int (p4 &&& (2147483647 : Int32))), .val (.ref b1), .val (.ref b6), .val (.long (F4 (p1 &&& (2147483647 : Int32)) (p2 &&& (2147483647 : Int32)) (p3 &&& (2147483647 : Int32)) (p4 &&& (2147483647 : Int32)))), .second, .val (.long (F4 (p3 &&& (2147483647 : Int32)) (p4 &&& (2147483647 : Int32)) (p1 &&& (2147483647 : Int32)) (p2 &&& (2147483647 : Int32)))), .second, .val (.long ((p1 &&& (2147483647 : Int32))).toInt64), .second, .val (.long ((p2 &&& (2147483647 : Int32))).toInt64), .second, .val (.long ((p3 &&& (2147483647 : Int32))).toInt64), .second, .val (.long ((p4 &&& (2147483647 : Int32))).toInt64), .second, .unset, .unset] [(.long ((((p1 &&& (2147483647 : Int32))).toInt64 * ((p1 &&& (2147483647 : Int32))).toInt64) + (((p3 &&& (2147483647 : Int32))).toInt64 * ((p3 &&& (2147483647 : Int32))).toInt64)))]))
  refine Done.step (X19.ldc2Long hx hown (mvT hZ (hw _ (List.mem_of_getElem? (i := 24) rfl))) (g := (mkF m 99 #[.val (.int p1), .val (.int p2), .val (.int p3), .val (.int p4), .val (.int (p1 &&& (2147483647 : Int32))), .val (.int (p2 &&& (2147483647 : Int32))), .val (.int (p3 &&& (2147483647 : Int32))), .val (.int (p4 &&& (2147483647 : Int32))), .val (.ref b1), .val (.ref b6), .val (.long (F4 (p1 &&& (2147483647 : Int32)) (p2 &&& (2147483647 : Int32)) (p3 &&& (2147483647 : Int32)) (p4 &&& (2147483647 : Int32)))), .second, .val (.long (F4 (p3 &&& (2147483647 : Int32)) (p4 &&& (2147483647 : Int32)) (p1 &&& (2147483647 : Int32)) (p2 &&& (2147483647 : Int32)))), .second, .val (.long ((p1 &&& (2147483647 : Int32))).toInt64), .second, .val (.long ((p2 &&& (2147483647 : Int32))).toInt64), .second, .val (.long ((p3 &&& (2147483647 : Int32))).toInt64), .second, .val (.long ((p4 &&& (2147483647 : Int32))).toInt64), .second, .unset, .unset] [(.long ((((p1 &&& (2147483647 : Int32))).toInt64 * ((p1 &&& (2147483647 : Int32))).toInt64) + (((p3 &&& (2147483647 : Int32))).toInt64 * ((p3 &&& (2147483647 : Int32))).toInt64)))])) rfl (hb hby at_99)) ?_
  show Done p e below s _ _ _ (T19.setTop (mkF m 102 #[.val (.int p1), .val (.int p2), .val (.int p3), .val (.int p4), .val (.int (p1 &&& (2147483647 : Int32))), .val (.int (p2 &&& (2147483647 : Int32))), .val (.int (p3 &&& (2147483647 : Int32))), .val (.int (p4 &&& (2147483647 : Int32))), .val (.ref b1), .val (.ref b6), .val (.long (F4 (p1 &&& (2147483647 : Int32)) (p2 &&& (2147483647 : Int32)) (p3 &&& (2147483647 : Int32)) (p4 &&& (2147483647 : Int32)))), .second, .val (.long (F4 (p3 &&& (2147483647 : Int32)) (p4 &&& (2147483647 : Int32)) (p1 &&& (2147483647 : Int32)) (p2 &&& (2147483647 : Int32)))), .second, .val (.long ((p1 &&& (2147483647 : Int32))).toInt64), .second, .val (.long ((p2 &&& (2147483647 : Int32))).toInt64), .second, .val (.long ((p3 &&& (2147483647 : Int32))).toInt64), .second, .val (.long ((p4 &&& (2147483647 : Int32))).toInt64), .second, .unset, .unset] [(.long (2 : Int64)), (.long ((((p1 &&& (2147483647 : Int32))).toInt64 * ((p1 &&& (2147483647 : Int32))).toInt64) + (((p3 &&& (2147483647 : Int32))).toInt64 * ((p3 &&& (2147483647 : Int32))).toInt64)))]))
  refine Done.step (fun t k => XS.lload X19.here hx rfl (hb hby at_102) rfl k) ?_
  show Done p e below s _ _ _ (T19.setTop (mkF m 104 #[.val (.int p1), .val (.int p2), .val (.int p3), .val (.int p4), .val (.int (p1 &&& (2147483647 : Int32))), .val (.int (p2 &&& (2147483647 : Int32))), .val (.int (p3 &&& (2147483647 : Int32))), .val (.int (p4 &&& (2147483647 : Int32))), .val (.ref b1), .val (.ref b6), .val (.long (F4 (p1 &&& (2147483647 : Int32)) (p2 &&& (2147483647 : Int32)) (p3 &&& (2147483647 : Int32)) (p4 &&& (2147483647 : Int32)))), .second, .val (.long (F4 (p3 &&& (2147483647 : Int32)) (p4 &&& (2147483647 : Int32)) (p1 &&& (2147483647 : Int32)) (p2 &&& (2147483647 : Int32)))), .second, .val (.long ((p1 &&& (2147483647 : Int32))).toInt64), .second, .val (.long ((p2 &&& (2147483647 : Int32))).toInt64), .second, .val (.long ((p3 &&& (2147483647 : Int32))).toInt64), .second, .val (.long ((p4 &&& (2147483647 : Int32))).toInt64), .second, .unset, .unset] [(.long ((p1 &&& (2147483647 : Int32))).toInt64), (.long (2 : Int64)), (.long ((((p1 &&& (2147483647 : Int32))).toInt64 * ((p1 &&& (2147483647 : Int32))).toInt64) + (((p3 &&& (2147483647 : Int32))).toInt64 * ((p3 &&& (2147483647 : Int32))).toInt64)))]))
  refine Done.step (fun t k => XS.lmul X19.here hx rfl (hb hby at_104) rfl k) ?_
  show Done p e below s _ _ _ (T19.setTop (mkF m 105 #[.val (.int p1), .val (.int p2), .val (.int p3), .val (.int p4), .val (.int (p1 &&& (2147483647 : Int32))), .val (.int (p2 &&& (2147483647 : Int32))), .val (.int (p3 &&& (2147483647 : Int32))), .val (.int (p4 &&& (2147483647 : Int32))), .val (.ref b1), .val (.ref b6), .val (.long (F4 (p1 &&& (2147483647 : Int32)) (p2 &&& (2147483647 : Int32)) (p3 &&& (2147483647 : Int32)) (p4 &&& (2147483647 : Int32)))), .second, .val (.long (F4 (p3 &&& (2147483647 : Int32)) (p4 &&& (2147483647 : Int32)) (p1 &&& (2147483647 : Int32)) (p2 &&& (2147483647 : Int32)))), .second, .val (.long ((p1 &&& (2147483647 : Int32))).toInt64), .second, .val (.long ((p2 &&& (2147483647 : Int32))).toInt64), .second, .val (.long ((p3 &&& (2147483647 : Int32))).toInt64), .second, .val (.long ((p4 &&& (2147483647 : Int32))).toInt64), .second, .unset, .unset] [(.long ((2 : Int64) * ((p1 &&& (2147483647 : Int32))).toInt64)), (.long ((((p1 &&& (2147483647 : Int32))).toInt64 * ((p1 &&& (2147483647 : Int32))).toInt64) + (((p3 &&& (2147483647 : Int32))).toInt64 * ((p3 &&& (2147483647 : Int32))).toInt64)))]))
  refine Done.step (fun t k => XS.lload X19.here hx rfl (hb hby at_105) rfl k) ?_
  show Done p e below s _ _ _ (T19.setTop (mkF m 107 #[.val (.int p1), .val (.int p2), .val (.int p3), .val (.int p4), .val (.int (p1 &&& (2147483647 : Int32))), .val (.int (p2 &&& (2147483647 : Int32))), .val (.int (p3 &&& (2147483647 : Int32))), .val (.int (p4 &&& (2147483647 : Int32))), .val (.ref b1), .val (.ref b6), .val (.long (F4 (p1 &&& (2147483647 : Int32)) (p2 &&& (2147483647 : Int32)) (p3 &&& (2147483647 : Int32)) (p4 &&& (2147483647 : Int32)))), .second, .val (.long (F4 (p3 &&& (2147483647 : Int32)) (p4 &&& (2147483647 : Int32)) (p1 &&& (2147483647 : Int32)) (p2 &&& (2147483647 : Int32)))), .second, .val (.long ((p1 &&& (2147483647 : Int32))).toInt64), .second, .val (.long ((p2 &&& (2147483647 : Int32))).toInt64), .second, .val (.long ((p3 &&& (2147483647 : Int32))).toInt64), .second, .val (.long ((p4 &&& (2147483647 : Int32))).toInt64), .second, .unset, .unset] [(.long ((p3 &&& (2147483647 : Int32))).toInt64), (.long ((2 : Int64) * ((p1 &&& (2147483647 : Int32))).toInt64)), (.long ((((p1 &&& (2147483647 : Int32))).toInt64 * ((p1 &&& (2147483647 : Int32))).toInt64) + (((p3 &&& (2147483647 : Int32))).toInt64 * ((p3 &&& (2147483647 : Int32))).toInt64)))]))
  refine Done.step (fun t k => XS.lmul X19.here hx rfl (hb hby at_107) rfl k) ?_
  show Done p e below s _ _ _ (T19.setTop (mkF m 108 #[.val (.int p1), .val (.int p2), .val (.int p3), .val (.int p4), .val (.int (p1 &&& (2147483647 : Int32))), .val (.int (p2 &&& (2147483647 : Int32))), .val (.int (p3 &&& (2147483647 : Int32))), .val (.int (p4 &&& (2147483647 : Int32))), .val (.ref b1), .val (.ref b6), .val (.long (F4 (p1 &&& (2147483647 : Int32)) (p2 &&& (2147483647 : Int32)) (p3 &&& (2147483647 : Int32)) (p4 &&& (2147483647 : Int32)))), .second, .val (.long (F4 (p3 &&& (2147483647 : Int32)) (p4 &&& (2147483647 : Int32)) (p1 &&& (2147483647 : Int32)) (p2 &&& (2147483647 : Int32)))), .second, .val (.long ((p1 &&& (2147483647 : Int32))).toInt64), .second, .val (.long ((p2 &&& (2147483647 : Int32))).toInt64), .second, .val (.long ((p3 &&& (2147483647 : Int32))).toInt64), .second, .val (.long ((p4 &&& (2147483647 : Int32))).toInt64), .second, .unset, .unset] [(.long (((2 : Int64) * ((p1 &&& (2147483647 : Int32))).toInt64) * ((p3 &&& (2147483647 : Int32))).toInt64)), (.long ((((p1 &&& (2147483647 : Int32))).toInt64 * ((p1 &&& (2147483647 : Int32))).toInt64) + (((p3 &&& (2147483647 : Int32))).toInt64 * ((p3 &&& (2147483647 : Int32))).toInt64)))]))
  refine Done.step (fun t k => XS.lsub X19.here hx rfl (hb hby at_108) rfl k) ?_
  show Done p e below s _ _ _ (T19.setTop (mkF m 109 #[.val (.int p1), .val (.int p2), .val (.int p3), .val (.int p4), .val (.int (p1 &&& (2147483647 : Int32))), .val (.int (p2 &&& (2147483647 : Int32))), .val (.int (p3 &&& (2147483647 : Int32))), .val (.int (p4 &&& (2147483647 : Int32))), .val (.ref b1), .val (.ref b6), .val (.long (F4 (p1 &&& (2147483647 : Int32)) (p2 &&& (2147483647 : Int32)) (p3 &&& (2147483647 : Int32)) (p4 &&& (2147483647 : Int32)))), .second, .val (.long (F4 (p3 &&& (2147483647 : Int32)) (p4 &&& (2147483647 : Int32)) (p1 &&& (2147483647 : Int32)) (p2 &&& (2147483647 : Int32)))), .second, .val (.long ((p1 &&& (2147483647 : Int32))).toInt64), .second, .val (.long ((p2 &&& (2147483647 : Int32))).toInt64), .second, .val (.long ((p3 &&& (2147483647 : Int32))).toInt64), .second, .val (.long ((p4 &&& (2147483647 : Int32))).toInt64), .second, .unset, .unset] [(.long (((((p1 &&& (2147483647 : Int32))).toInt64 * ((p1 &&& (2147483647 : Int32))).toInt64) + (((p3 &&& (2147483647 : Int32))).toInt64 * ((p3 &&& (2147483647 : Int32))).toInt64)) - (((2 : Int64) * ((p1 &&& (2147483647 : Int32))).toInt64) * ((p3 &&& (2147483647 : Int32))).toInt64)))]))
  refine Done.step (fun t k => XS.lload X19.here hx rfl (hb hby at_109) rfl k) ?_
  show Done p e below s _ _ _ (T19.setTop (mkF m 111 #[.val (.int p1), .val (.int p2), .val (.int p3), .val (.int p4), .val (.int (p1 &&& (2147483647 : Int32))), .val (.int (p2 &&& (2147483647 : Int32))), .val (.int (p3 &&& (2147483647 : Int32))), .val (.int (p4 &&& (2147483647 : Int32))), .val (.ref b1), .val (.ref b6), .val (.long (F4 (p1 &&& (2147483647 : Int32)) (p2 &&& (2147483647 : Int32)) (p3 &&& (2147483647 : Int32)) (p4 &&& (2147483647 : Int32)))), .second, .val (.long (F4 (p3 &&& (2147483647 : Int32)) (p4 &&& (2147483647 : Int32)) (p1 &&& (2147483647 : Int32)) (p2 &&& (2147483647 : Int32)))), .second, .val (.long ((p1 &&& (2147483647 : Int32))).toInt64), .second, .val (.long ((p2 &&& (2147483647 : Int32))).toInt64), .second, .val (.long ((p3 &&& (2147483647 : Int32))).toInt64), .second, .val (.long ((p4 &&& (2147483647 : Int32))).toInt64), .second, .unset, .unset] [(.long ((p2 &&& (2147483647 : Int32))).toInt64), (.long (((((p1 &&& (2147483647 : Int32))).toInt64 * ((p1 &&& (2147483647 : Int32))).toInt64) + (((p3 &&& (2147483647 : Int32))).toInt64 * ((p3 &&& (2147483647 : Int32))).toInt64)) - (((2 : Int64) * ((p1 &&& (2147483647 : Int32))).toInt64) * ((p3 &&& (2147483647 : Int32))).toInt64)))]))
  refine Done.step (fun t k => XS.lload X19.here hx rfl (hb hby at_111) rfl k) ?_
  show Done p e below s _ _ _ (T19.setTop (mkF m 113 #[.val (.int p1), .val (.int p2), .val (.int p3), .val (.int p4), .val (.int (p1 &&& (2147483647 : Int32))), .val (.int (p2 &&& (2147483647 : Int32))), .val (.int (p3 &&& (2147483647 : Int32))), .val (.int (p4 &&& (2147483647 : Int32))), .val (.ref b1), .val (.ref b6), .val (.long (F4 (p1 &&& (2147483647 : Int32)) (p2 &&& (2147483647 : Int32)) (p3 &&& (2147483647 : Int32)) (p4 &&& (2147483647 : Int32)))), .second, .val (.long (F4 (p3 &&& (2147483647 : Int32)) (p4 &&& (2147483647 : Int32)) (p1 &&& (2147483647 : Int32)) (p2 &&& (2147483647 : Int32)))), .second, .val (.long ((p1 &&& (2147483647 : Int32))).toInt64), .second, .val (.long ((p2 &&& (2147483647 : Int32))).toInt64), .second, .val (.long ((p3 &&& (2147483647 : Int32))).toInt64), .second, .val (.long ((p4 &&& (2147483647 : Int32))).toInt64), .second, .unset, .unset] [(.long ((p2 &&& (2147483647 : Int32))).toInt64), (.long ((p2 &&& (2147483647 : Int32))).toInt64), (.long (((((p1 &&& (2147483647 : Int32))).toInt64 * ((p1 &&& (2147483647 : Int32))).toInt64) + (((p3 &&& (2147483647 : Int32))).toInt64 * ((p3 &&& (2147483647 : Int32))).toInt64)) - (((2 : Int64) * ((p1 &&& (2147483647 : Int32))).toInt64) * ((p3 &&& (2147483647 : Int32))).toInt64)))]))
  refine Done.step (fun t k => XS.lmul X19.here hx rfl (hb hby at_113) rfl k) ?_
  show Done p e below s _ _ _ (T19.setTop (mkF m 114 #[.val (.int p1), .val (.int p2), .val (.int p3), .val (.int p4), .val (.int (p1 &&& (2147483647 : Int32))), .val (.int (p2 &&& (2147483647 : Int32))), .val (.int (p3 &&& (2147483647 : Int32))), .val (.int (p4 &&& (2147483647 : Int32))), .val (.ref b1), .val (.ref b6), .val (.long (F4 (p1 &&& (2147483647 : Int32)) (p2 &&& (2147483647 : Int32)) (p3 &&& (2147483647 : Int32)) (p4 &&& (2147483647 : Int32)))), .second, .val (.long (F4 (p3 &&& (2147483647 : Int32)) (p4 &&& (2147483647 : Int32)) (p1 &&& (2147483647 : Int32)) (p2 &&& (2147483647 : Int32)))), .second, .val (.long ((p1 &&& (2147483647 : Int32))).toInt64), .second, .val (.long ((p2 &&& (2147483647 : Int32))).toInt64), .second, .val (.long ((p3 &&& (2147483647 : Int32))).toInt64), .second, .val (.long ((p4 &&& (2147483647 : Int32))).toInt64), .second, .unset, .unset] [(.long (((p2 &&& (2147483647 : Int32))).toInt64 * ((p2 &&& (2147483647 : Int32))).toInt64)), (.long (((((p1 &&& (2147483647 : Int32))).toInt64 * ((p1 &&& (2147483647 : Int32))).toInt64) + (((p3 &&& (2147483647 : Int32))).toInt64 * ((p3 &&& (2147483647 : Int32))).toInt64)) - (((2 : Int64) * ((p1 &&& (2147483647 : Int32))).toInt64) * ((p3 &&& (2147483647 : Int32))).toInt64)))]))
  refine Done.step (fun t k => XS.ladd X19.here hx rfl (hb hby at_114) rfl k) ?_
  show Done p e below s _ _ _ (T19.setTop (mkF m 115 #[.val (.int p1), .val (.int p2), .val (.int p3), .val (.int p4), .val (.int (p1 &&& (2147483647 : Int32))), .val (.int (p2 &&& (2147483647 : Int32))), .val (.int (p3 &&& (2147483647 : Int32))), .val (.int (p4 &&& (2147483647 : Int32))), .val (.ref b1), .val (.ref b6), .val (.long (F4 (p1 &&& (2147483647 : Int32)) (p2 &&& (2147483647 : Int32)) (p3 &&& (2147483647 : Int32)) (p4 &&& (2147483647 : Int32)))), .second, .val (.long (F4 (p3 &&& (2147483647 : Int32)) (p4 &&& (2147483647 : Int32)) (p1 &&& (2147483647 : Int32)) (p2 &&& (2147483647 : Int32)))), .second, .val (.long ((p1 &&& (2147483647 : Int32))).toInt64), .second, .val (.long ((p2 &&& (2147483647 : Int32))).toInt64), .second, .val (.long ((p3 &&& (2147483647 : Int32))).toInt64), .second, .val (.long ((p4 &&& (2147483647 : Int32))).toInt64), .second, .unset, .unset] [(.long ((((((p1 &&& (2147483647 : Int32))).toInt64 * ((p1 &&& (2147483647 : Int32))).toInt64) + (((p3 &&& (2147483647 : Int32))).toInt64 * ((p3 &&& (2147483647 : Int32))).toInt64)) - (((2 : Int64) * ((p1 &&& (2147483647 : Int32))).toInt64) * ((p3 &&& (2147483647 : Int32))).toInt64)) + (((p2 &&& (2147483647 : Int32))).toInt64 * ((p2 &&& (2147483647 : Int32))).toInt64)))]))
  refine Done.step (fun t k => XS.lload X19.here hx rfl (hb hby at_115) rfl k) ?_
  show Done p e below s _ _ _ (T19.setTop (mkF m 117 #[.val (.int p1), .val (.int p2), .val (.int p3), .val (.int p4), .val (.int (p1 &&& (2147483647 : Int32))), .val (.int (p2 &&& (2147483647 : Int32))), .val (.int (p3 &&& (2147483647 : Int32))), .val (.int (p4 &&& (2147483647 : Int32))), .val (.ref b1), .val (.ref b6), .val (.long (F4 (p1 &&& (2147483647 : Int32)) (p2 &&& (2147483647 : Int32)) (p3 &&& (2147483647 : Int32)) (p4 &&& (2147483647 : Int32)))), .second, .val (.long (F4 (p3 &&& (2147483647 : Int32)) (p4 &&& (2147483647 : Int32)) (p1 &&& (2147483647 : Int32)) (p2 &&& (2147483647 : Int32)))), .second, .val (.long ((p1 &&& (2147483647 : Int32))).toInt64), .second, .val (.long ((p2 &&& (2147483647 : Int32))).toInt64), .second, .val (.long ((p3 &&& (2147483647 : Int32))).toInt64), .second, .val (.long ((p4 &&& (2147483647 : Int32))).toInt64), .second, .unset, .unset] [(.long ((p4 &&& (2147483647 : Int32))).toInt64), (.long ((((((p1 &&& (2147483647 : Int32))).toInt64 * ((p1 &&& (2147483647 : Int32))).toInt64) + (((p3 &&& (2147483647 : Int32))).toInt64 * ((p3 &&& (2147483647 : Int32))).toInt64)) - (((2 : Int64) * ((p1 &&& (2147483647 : Int32))).toInt64) * ((p3 &&& (2147483647 : Int32))).toInt64)) + (((p2 &&& (2147483647 : Int32))).toInt64 * ((p2 &&& (2147483647 : Int32))).toInt64)))]))
  refine Done.step (fun t k => XS.lload X19.here hx rfl (hb hby at_117) rfl k) ?_
  show Done p e below s _ _ _ (T19.setTop (mkF m 119 #[.val (.int p1), .val (.int p2), .val (.int p3), .val (.int p4), .val (.int (p1 &&& (2147483647 : Int32))), .val (.int (p2 &&& (2147483647 : Int32))), .val (.int (p3 &&& (2147483647 : Int32))), .val (.int (p4 &&& (2147483647 : Int32))), .val (.ref b1), .val (.ref b6), .val (.long (F4 (p1 &&& (2147483647 : Int32)) (p2 &&& (2147483647 : Int32)) (p3 &&& (2147483647 : Int32)) (p4 &&& (2147483647 : Int32)))), .second, .val (.long (F4 (p3 &&& (2147483647 : Int32)) (p4 &&& (2147483647 : Int32)) (p1 &&& (2147483647 : Int32)) (p2 &&& (2147483647 : Int32)))), .second, .val (.long ((p1 &&& (2147483647 : Int32))).toInt64), .second, .val (.long ((p2 &&& (2147483647 : Int32))).toInt64), .second, .val (.long ((p3 &&& (2147483647 : Int32))).toInt64), .second, .val (.long ((p4 &&& (2147483647 : Int32))).toInt64), .second, .unset, .unset] [(.long ((p4 &&& (2147483647 : Int32))).toInt64), (.long ((p4 &&& (2147483647 : Int32))).toInt64), (.long ((((((p1 &&& (2147483647 : Int32))).toInt64 * ((p1 &&& (2147483647 : Int32))).toInt64) + (((p3 &&& (2147483647 : Int32))).toInt64 * ((p3 &&& (2147483647 : Int32))).toInt64)) - (((2 : Int64) * ((p1 &&& (2147483647 : Int32))).toInt64) * ((p3 &&& (2147483647 : Int32))).toInt64)) + (((p2 &&& (2147483647 : Int32))).toInt64 * ((p2 &&& (2147483647 : Int32))).toInt64)))]))
  refine Done.step (fun t k => XS.lmul X19.here hx rfl (hb hby at_119) rfl k) ?_
  show Done p e below s _ _ _ (T19.setTop (mkF m 120 #[.val (.int p1), .val (.int p2), .val (.int p3), .val (.int p4), .val (.int (p1 &&& (2147483647 : Int32))), .val (.int (p2 &&& (2147483647 : Int32))), .val (.int (p3 &&& (2147483647 : Int32))), .val (.int (p4 &&& (2147483647 : Int32))), .val (.ref b1), .val (.ref b6), .val (.long (F4 (p1 &&& (2147483647 : Int32)) (p2 &&& (2147483647 : Int32)) (p3 &&& (2147483647 : Int32)) (p4 &&& (2147483647 : Int32)))), .second, .val (.long (F4 (p3 &&& (2147483647 : Int32)) (p4 &&& (2147483647 : Int32)) (p1 &&& (2147483647 : Int32)) (p2 &&& (2147483647 : Int32)))), .second, .val (.long ((p1 &&& (2147483647 : Int32))).toInt64), .second, .val (.long ((p2 &&& (2147483647 : Int32))).toInt64), .second, .val (.long ((p3 &&& (2147483647 : Int32))).toInt64), .second, .val (.long ((p4 &&& (2147483647 : Int32))).toInt64), .second, .unset, .unset] [(.long (((p4 &&& (2147483647 : Int32))).toInt64 * ((p4 &&& (2147483647 : Int32))).toInt64)), (.long ((((((p1 &&& (2147483647 : Int32))).toInt64 * ((p1 &&& (2147483647 : Int32))).toInt64) + (((p3 &&& (2147483647 : Int32))).toInt64 * ((p3 &&& (2147483647 : Int32))).toInt64)) - (((2 : Int64) * ((p1 &&& (2147483647 : Int32))).toInt64) * ((p3 &&& (2147483647 : Int32))).toInt64)) + (((p2 &&& (2147483647 : Int32))).toInt64 * ((p2 &&& (2147483647 : Int32))).toInt64)))]))
  refine Done.step (fun t k => XS.ladd X19.here hx rfl (hb hby at_120) rfl k) ?_
  show Done p e below s _ _ _ (T19.setTop (mkF m 121 #[.val (.int p1), .val (.int p2), .val (.int p3), .val (.int p4), .val (.int (p1 &&& (2147483647 : Int32))), .val (.int (p2 &&& (2147483647 : Int32))), .val (.int (p3 &&& (2147483647 : Int32))), .val (.int (p4 &&& (2147483647 : Int32))), .val (.ref b1), .val (.ref b6), .val (.long (F4 (p1 &&& (2147483647 : Int32)) (p2 &&& (2147483647 : Int32)) (p3 &&& (2147483647 : Int32)) (p4 &&& (2147483647 : Int32)))), .second, .val (.long (F4 (p3 &&& (2147483647 : Int32)) (p4 &&& (2147483647 : Int32)) (p1 &&& (2147483647 : Int32)) (p2 &&& (2147483647 : Int32)))), .second, .val (.long ((p1 &&& (2147483647 : Int32))).toInt64), .second, .val (.long ((p2 &&& (2147483647 : Int32))).toInt64), .second, .val (.long ((p3 &&& (2147483647 : Int32))).toInt64), .second, .val (.long ((p4 &&& (2147483647 : Int32))).toInt64), .second, .unset, .unset] [(.long (((((((p1 &&& (2147483647 : Int32))).toInt64 * ((p1 &&& (2147483647 : Int32))).toInt64) + (((p3 &&& (2147483647 : Int32))).toInt64 * ((p3 &&& (2147483647 : Int32))).toInt64)) - (((2 : Int64) * ((p1 &&& (2147483647 : Int32))).toInt64) * ((p3 &&& (2147483647 : Int32))).toInt64)) + (((p2 &&& (2147483647 : Int32))).toInt64 * ((p2 &&& (2147483647 : Int32))).toInt64)) + (((p4 &&& (2147483647 : Int32))).toInt64 * ((p4 &&& (2147483647 : Int32))).toInt64)))]))
  refine Done.step (X19.ldc2Long hx hown (mvT hZ (hw _ (List.mem_of_getElem? (i := 24) rfl))) (g := (mkF m 121 #[.val (.int p1), .val (.int p2), .val (.int p3), .val (.int p4), .val (.int (p1 &&& (2147483647 : Int32))), .val (.int (p2 &&& (2147483647 : Int32))), .val (.int (p3 &&& (2147483647 : Int32))), .val (.int (p4 &&& (2147483647 : Int32))), .val (.ref b1), .val (.ref b6), .val (.long (F4 (p1 &&& (2147483647 : Int32)) (p2 &&& (2147483647 : Int32)) (p3 &&& (2147483647 : Int32)) (p4 &&& (2147483647 : Int32)))), .second, .val (.long (F4 (p3 &&& (2147483647 : Int32)) (p4 &&& (2147483647 : Int32)) (p1 &&& (2147483647 : Int32)) (p2 &&& (2147483647 : Int32)))), .second, .val (.long ((p1 &&& (2147483647 : Int32))).toInt64), .second, .val (.long ((p2 &&& (2147483647 : Int32))).toInt64), .second, .val (.long ((p3 &&& (2147483647 : Int32))).toInt64), .second, .val (.long ((p4 &&& (2147483647 : Int32))).toInt64), .second, .unset, .unset] [(.long (((((((p1 &&& (2147483647 : Int32))).toInt64 * ((p1 &&& (2147483647 : Int32))).toInt64) + (((p3 &&& (2147483647 : Int32))).toInt64 * ((p3 &&& (2147483647 : Int32))).toInt64)) - (((2 : Int64) * ((p1 &&& (2147483647 : Int32))).toInt64) * ((p3 &&& (2147483647 : Int32))).toInt64)) + (((p2 &&& (2147483647 : Int32))).toInt64 * ((p2 &&& (2147483647 : Int32))).toInt64)) + (((p4 &&& (2147483647 : Int32))).toInt64 * ((p4 &&& (2147483647 : Int32))).toInt64)))])) rfl (hb hby at_121)) ?_
  show Done p e below s _ _ _ (T19.setTop (mkF m 124 #[.val (.int p1), .val (.int p2), .val (.int p3), .val (.int p4), .val (.int (p1 &&& (2147483647 : Int32))), .val (.int (p2 &&& (2147483647 : Int32))), .val (.int (p3 &&& (2147483647 : Int32))), .val (.int (p4 &&& (2147483647 : Int32))), .val (.ref b1), .val (.ref b6), .val (.long (F4 (p1 &&& (2147483647 : Int32)) (p2 &&& (2147483647 : Int32)) (p3 &&& (2147483647 : Int32)) (p4 &&& (2147483647 : Int32)))), .second, .val (.long (F4 (p3 &&& (2147483647 : Int32)) (p4 &&& (2147483647 : Int32)) (p1 &&& (2147483647 : Int32)) (p2 &&& (2147483647 : Int32)))), .second, .val (.long ((p1 &&& (2147483647 : Int32))).toInt64), .second, .val (.long ((p2 &&& (2147483647 : Int32))).toInt64), .second, .val (.long ((p3 &&& (2147483647 : Int32))).toInt64), .second, .val (.long ((p4 &&& (2147483647 : Int32))).toInt64), .second, .unset, .unset] [(.long (2 : Int64)), (.long (((((((p1 &&& (2147483647 : Int32))).toInt64 * ((p1 &&& (2147483647 : Int32))).toInt64) + (((p3 &&& (2147483647 : Int32))).toInt64 * ((p3 &&& (2147483647 : Int32))).toInt64)) - (((2 : Int64) * ((p1 &&& (2147483647 : Int32))).toInt64) * ((p3 &&& (2147483647 : Int32))).toInt64)) + (((p2 &&& (2147483647 : Int32))).toInt64 * ((p2 &&& (2147483647 : Int32))).toInt64)) + (((p4 &&& (2147483647 : Int32))).toInt64 * ((p4 &&& (2147483647 : Int32))).toInt64)))]))
  refine Done.step (fun t k => XS.lload X19.here hx rfl (hb hby at_124) rfl k) ?_
  show Done p e below s _ _ _ (T19.setTop (mkF m 126 #[.val (.int p1), .val (.int p2), .val (.int p3), .val (.int p4), .val (.int (p1 &&& (2147483647 : Int32))), .val (.int (p2 &&& (2147483647 : Int32))), .val (.int (p3 &&& (2147483647 : Int32))), .val (.int (p4 &&& (2147483647 : Int32))), .val (.ref b1), .val (.ref b6), .val (.long (F4 (p1 &&& (2147483647 : Int32)) (p2 &&& (2147483647 : Int32)) (p3 &&& (2147483647 : Int32)) (p4 &&& (2147483647 : Int32)))), .second, .val (.long (F4 (p3 &&& (2147483647 : Int32)) (p4 &&& (2147483647 : Int32)) (p1 &&& (2147483647 : Int32)) (p2 &&& (2147483647 : Int32)))), .second, .val (.long ((p1 &&& (2147483647 : Int32))).toInt64), .second, .val (.long ((p2 &&& (2147483647 : Int32))).toInt64), .second, .val (.long ((p3 &&& (2147483647 : Int32))).toInt64), .second, .val (.long ((p4 &&& (2147483647 : Int32))).toInt64), .second, .unset, .unset] [(.long ((p2 &&& (2147483647 : Int32))).toInt64), (.long (2 : Int64)), (.long (((((((p1 &&& (2147483647 : Int32))).toInt64 * ((p1 &&& (2147483647 : Int32))).toInt64) + (((p3 &&& (2147483647 : Int32))).toInt64 * ((p3 &&& (2147483647 : Int32))).toInt64)) - (((2 : Int64) * ((p1 &&& (2147483647 : Int32))).toInt64) * ((p3 &&& (2147483647 : Int32))).toInt64)) + (((p2 &&& (2147483647 : Int32))).toInt64 * ((p2 &&& (2147483647 : Int32))).toInt64)) + (((p4 &&& (2147483647 : Int32))).toInt64 * ((p4 &&& (2147483647 : Int32))).toInt64)))]))
  refine Done.step (fun t k => XS.lmul X19.here hx rfl (hb hby at_126) rfl k) ?_
  show Done p e below s _ _ _ (T19.setTop (mkF m 127 #[.val (.int p1), .val (.int p2), .val (.int p3), .val (.int p4), .val (.int (p1 &&& (2147483647 : Int32))), .val (.int (p2 &&& (2147483647 : Int32))), .val (.int (p3 &&& (2147483647 : Int32))), .val (.int (p4 &&& (2147483647 : Int32))), .val (.ref b1), .val (.ref b6), .val (.long (F4 (p1 &&& (2147483647 : Int32)) (p2 &&& (2147483647 : Int32)) (p3 &&& (2147483647 : Int32)) (p4 &&& (2147483647 : Int32)))), .second, .val (.long (F4 (p3 &&& (2147483647 : Int32)) (p4 &&& (2147483647 : Int32)) (p1 &&& (2147483647 : Int32)) (p2 &&& (2147483647 : Int32)))), .second, .val (.long ((p1 &&& (2147483647 : Int32))).toInt64), .second, .val (.long ((p2 &&& (2147483647 : Int32))).toInt64), .second, .val (.long ((p3 &&& (2147483647 : Int32))).toInt64), .second, .val (.long ((p4 &&& (2147483647 : Int32))).toInt64), .second, .unset, .unset] [(.long ((2 : Int64) * ((p2 &&& (2147483647 : Int32))).toInt64)), (.long (((((((p1 &&& (2147483647 : Int32))).toInt64 * ((p1 &&& (2147483647 : Int32))).toInt64) + (((p3 &&& (2147483647 : Int32))).toInt64 * ((p3 &&& (2147483647 : Int32))).toInt64)) - (((2 : Int64) * ((p1 &&& (2147483647 : Int32))).toInt64) * ((p3 &&& (2147483647 : Int32))).toInt64)) + (((p2 &&& (2147483647 : Int32))).toInt64 * ((p2 &&& (2147483647 : Int32))).toInt64)) + (((p4 &&& (2147483647 : Int32))).toInt64 * ((p4 &&& (2147483647 : Int32))).toInt64)))]))
  refine Done.step (fun t k => XS.lload X19.here hx rfl (hb hby at_127) rfl k) ?_
  show Done p e below s _ _ _ (T19.setTop (mkF m 129 #[.val (.int p1), .val (.int p2), .val (.int p3), .val (.int p4), .val (.int (p1 &&& (2147483647 : Int32))), .val (.int (p2 &&& (2147483647 : Int32))), .val (.int (p3 &&& (2147483647 : Int32))), .val (.int (p4 &&& (2147483647 : Int32))), .val (.ref b1), .val (.ref b6), .val (.long (F4 (p1 &&& (2147483647 : Int32)) (p2 &&& (2147483647 : Int32)) (p3 &&& (2147483647 : Int32)) (p4 &&& (2147483647 : Int32)))), .second, .val (.long (F4 (p3 &&& (2147483647 : Int32)) (p4 &&& (2147483647 : Int32)) (p1 &&& (2147483647 : Int32)) (p2 &&& (2147483647 : Int32)))), .second, .val (.long ((p1 &&& (2147483647 : Int32))).toInt64), .second, .val (.long ((p2 &&& (2147483647 : Int32))).toInt64), .second, .val (.long ((p3 &&& (2147483647 : Int32))).toInt64), .second, .val (.long ((p4 &&& (2147483647 : Int32))).toInt64), .second, .unset, .unset] [(.long ((p4 &&& (2147483647 : Int32))).toInt64), (.long ((2 : Int64) * ((p2 &&& (2147483647 : Int32))).toInt64)), (.long (((((((p1 &&& (2147483647 : Int32))).toInt64 * ((p1 &&& (2147483647 : Int32))).toInt64) + (((p3 &&& (2147483647 : Int32))).toInt64 * ((p3 &&& (2147483647 : Int32))).toInt64)) - (((2 : Int64) * ((p1 &&& (2147483647 : Int32))).toInt64) * ((p3 &&& (2147483647 : Int32))).toInt64)) + (((p2 &&& (2147483647 : Int32))).toInt64 * ((p2 &&& (2147483647 : Int32))).toInt64)) + (((p4 &&& (2147483647 : Int32))).toInt64 * ((p4 &&& (2147483647 : Int32))).toInt64)))]))
  refine Done.step (fun t k => XS.lmul X19.here hx rfl (hb hby at_129) rfl k) ?_
  show Done p e below s _ _ _ (T19.setTop (mkF m 130 #[.val (.int p1), .val (.int p2), .val (.int p3), .val (.int p4), .val (.int (p1 &&& (2147483647 : Int32))), .val (.int (p2 &&& (2147483647 : Int32))), .val (.int (p3 &&& (2147483647 : Int32))), .val (.int (p4 &&& (2147483647 : Int32))), .val (.ref b1), .val (.ref b6), .val (.long (F4 (p1 &&& (2147483647 : Int32)) (p2 &&& (2147483647 : Int32)) (p3 &&& (2147483647 : Int32)) (p4 &&& (2147483647 : Int32)))), .second, .val (.long (F4 (p3 &&& (2147483647 : Int32)) (p4 &&& (2147483647 : Int32)) (p1 &&& (2147483647 : Int32)) (p2 &&& (2147483647 : Int32)))), .second, .val (.long ((p1 &&& (2147483647 : Int32))).toInt64), .second, .val (.long ((p2 &&& (2147483647 : Int32))).toInt64), .second, .val (.long ((p3 &&& (2147483647 : Int32))).toInt64), .second, .val (.long ((p4 &&& (2147483647 : Int32))).toInt64), .second, .unset, .unset] [(.long (((2 : Int64) * ((p2 &&& (2147483647 : Int32))).toInt64) * ((p4 &&& (2147483647 : Int32))).toInt64)), (.long (((((((p1 &&& (2147483647 : Int32))).toInt64 * ((p1 &&& (2147483647 : Int32))).toInt64) + (((p3 &&& (2147483647 : Int32))).toInt64 * ((p3 &&& (2147483647 : Int32))).toInt64)) - (((2 : Int64) * ((p1 &&& (2147483647 : Int32))).toInt64) * ((p3 &&& (2147483647 : Int32))).toInt64)) + (((p2 &&& (2147483647 : Int32))).toInt64 * ((p2 &&& (2147483647 : Int32))).toInt64)) + (((p4 &&& (2147483647 : Int32))).toInt64 * ((p4 &&& (2147483647 : Int32))).toInt64)))]))
  refine Done.step (fun t k => XS.lsub X19.here hx rfl (hb hby at_130) rfl k) ?_
  show Done p e below s _ _ _ (T19.setTop (mkF m 131 #[.val (.int p1), .val (.int p2), .val (.int p3), .val (.int p4), .val (.int (p1 &&& (2147483647 : Int32))), .val (.int (p2 &&& (2147483647 : Int32))), .val (.int (p3 &&& (2147483647 : Int32))), .val (.int (p4 &&& (2147483647 : Int32))), .val (.ref b1), .val (.ref b6), .val (.long (F4 (p1 &&& (2147483647 : Int32)) (p2 &&& (2147483647 : Int32)) (p3 &&& (2147483647 : Int32)) (p4 &&& (2147483647 : Int32)))), .second, .val (.long (F4 (p3 &&& (2147483647 : Int32)) (p4 &&& (2147483647 : Int32)) (p1 &&& (2147483647 : Int32)) (p2 &&& (2147483647 : Int32)))), .second, .val (.long ((p1 &&& (2147483647 : Int32))).toInt64), .second, .val (.long ((p2 &&& (2147483647 : Int32))).toInt64), .second, .val (.long ((p3 &&& (2147483647 : Int32))).toInt64), .second, .val (.long ((p4 &&& (2147483647 : Int32))).toInt64), .second, .unset, .unset] [(.long ((((((((p1 &&& (2147483647 : Int32))).toInt64 * ((p1 &&& (2147483647 : Int32))).toInt64) + (((p3 &&& (2147483647 : Int32))).toInt64 * ((p3 &&& (2147483647 : Int32))).toInt64)) - (((2 : Int64) * ((p1 &&& (2147483647 : Int32))).toInt64) * ((p3 &&& (2147483647 : Int32))).toInt64)) + (((p2 &&& (2147483647 : Int32))).toInt64 * ((p2 &&& (2147483647 : Int32))).toInt64)) + (((p4 &&& (2147483647 : Int32))).toInt64 * ((p4 &&& (2147483647 : Int32))).toInt64)) - (((2 : Int64) * ((p2 &&& (2147483647 : Int32))).toInt64) * ((p4 &&& (2147483647 : Int32))).toInt64)))]))
  refine Done.step (fun t k => XS.lstore X19.here hx rfl (hb hby at_131) rfl (l' := #[.val (.int p1), .val (.int p2), .val (.int p3), .val (.int p4), .val (.int (p1 &&& (2147483647 : Int32))), .val (.int (p2 &&& (2147483647 : Int32))), .val (.int (p3 &&& (2147483647 : Int32))), .val (.int (p4 &&& (2147483647 : Int32))), .val (.ref b1), .val (.ref b6), .val (.long (F4 (p1 &&& (2147483647 : Int32)) (p2 &&& (2147483647 : Int32)) (p3 &&& (2147483647 : Int32)) (p4 &&& (2147483647 : Int32)))), .second, .val (.long (F4 (p3 &&& (2147483647 : Int32)) (p4 &&& (2147483647 : Int32)) (p1 &&& (2147483647 : Int32)) (p2 &&& (2147483647 : Int32)))), .second, .val (.long ((p1 &&& (2147483647 : Int32))).toInt64), .second, .val (.long ((p2 &&& (2147483647 : Int32))).toInt64), .second, .val (.long ((p3 &&& (2147483647 : Int32))).toInt64), .second, .val (.long ((p4 &&& (2147483647 : Int32))).toInt64), .second, .val (.long ((((((((p1 &&& (2147483647 : Int32))).toInt64 * ((p1 &&& (2147483647 : Int32))).toInt64) + (((p3 &&& (2147483647 : Int32))).toInt64 * ((p3 &&& (2147483647 : Int32))).toInt64)) - (((2 : Int64) * ((p1 &&& (2147483647 : Int32))).toInt64) * ((p3 &&& (2147483647 : Int32))).toInt64)) + (((p2 &&& (2147483647 : Int32))).toInt64 * ((p2 &&& (2147483647 : Int32))).toInt64)) + (((p4 &&& (2147483647 : Int32))).toInt64 * ((p4 &&& (2147483647 : Int32))).toInt64)) - (((2 : Int64) * ((p2 &&& (2147483647 : Int32))).toInt64) * ((p4 &&& (2147483647 : Int32))).toInt64))), .second]) rfl k) ?_
  show Done p e below s _ _ _ (T19.setTop (mkF m 133 #[.val (.int p1), .val (.int p2), .val (.int p3), .val (.int p4), .val (.int (p1 &&& (2147483647 : Int32))), .val (.int (p2 &&& (2147483647 : Int32))), .val (.int (p3 &&& (2147483647 : Int32))), .val (.int (p4 &&& (2147483647 : Int32))), .val (.ref b1), .val (.ref b6), .val (.long (F4 (p1 &&& (2147483647 : Int32)) (p2 &&& (2147483647 : Int32)) (p3 &&& (2147483647 : Int32)) (p4 &&& (2147483647 : Int32)))), .second, .val (.long (F4 (p3 &&& (2147483647 : Int32)) (p4 &&& (2147483647 : Int32)) (p1 &&& (2147483647 : Int32)) (p2 &&& (2147483647 : Int32)))), .second, .val (.long ((p1 &&& (2147483647 : Int32))).toInt64), .second, .val (.long ((p2 &&& (2147483647 : Int32))).toInt64), .second, .val (.long ((p3 &&& (2147483647 : Int32))).toInt64), .second, .val (.long ((p4 &&& (2147483647 : Int32))).toInt64), .second, .val (.long ((((((((p1 &&& (2147483647 : Int32))).toInt64 * ((p1 &&& (2147483647 : Int32))).toInt64) + (((p3 &&& (2147483647 : Int32))).toInt64 * ((p3 &&& (2147483647 : Int32))).toInt64)) - (((2 : Int64) * ((p1 &&& (2147483647 : Int32))).toInt64) * ((p3 &&& (2147483647 : Int32))).toInt64)) + (((p2 &&& (2147483647 : Int32))).toInt64 * ((p2 &&& (2147483647 : Int32))).toInt64)) + (((p4 &&& (2147483647 : Int32))).toInt64 * ((p4 &&& (2147483647 : Int32))).toInt64)) - (((2 : Int64) * ((p2 &&& (2147483647 : Int32))).toInt64) * ((p4 &&& (2147483647 : Int32))).toInt64))), .second] []))
  refine Done.step (fun t k => XS.lload X19.here hx rfl (hb hby at_133) rfl k) ?_
  show Done p e below s _ _ _ (T19.setTop (mkF m 135 #[.val (.int p1), .val (.int p2), .val (.int p3), .val (.int p4), .val (.int (p1 &&& (2147483647 : Int32))), .val (.int (p2 &&& (2147483647 : Int32))), .val (.int (p3 &&& (2147483647 : Int32))), .val (.int (p4 &&& (2147483647 : Int32))), .val (.ref b1), .val (.ref b6), .val (.long (F4 (p1 &&& (2147483647 : Int32)) (p2 &&& (2147483647 : Int32)) (p3 &&& (2147483647 : Int32)) (p4 &&& (2147483647 : Int32)))), .second, .val (.long (F4 (p3 &&& (2147483647 : Int32)) (p4 &&& (2147483647 : Int32)) (p1 &&& (2147483647 : Int32)) (p2 &&& (2147483647 : Int32)))), .second, .val (.long ((p1 &&& (2147483647 : Int32))).toInt64), .second, .val (.long ((p2 &&& (2147483647 : Int32))).toInt64), .second, .val (.long ((p3 &&& (2147483647 : Int32))).toInt64), .second, .val (.long ((p4 &&& (2147483647 : Int32))).toInt64), .second, .val (.long ((((((((p1 &&& (2147483647 : Int32))).toInt64 * ((p1 &&& (2147483647 : Int32))).toInt64) + (((p3 &&& (2147483647 : Int32))).toInt64 * ((p3 &&& (2147483647 : Int32))).toInt64)) - (((2 : Int64) * ((p1 &&& (2147483647 : Int32))).toInt64) * ((p3 &&& (2147483647 : Int32))).toInt64)) + (((p2 &&& (2147483647 : Int32))).toInt64 * ((p2 &&& (2147483647 : Int32))).toInt64)) + (((p4 &&& (2147483647 : Int32))).toInt64 * ((p4 &&& (2147483647 : Int32))).toInt64)) - (((2 : Int64) * ((p2 &&& (2147483647 : Int32))).toInt64) * ((p4 &&& (2147483647 : Int32))).toInt64))), .second] [(.long (F4 (p1 &&& (2147483647 : Int32)) (p2 &&& (2147483647 : Int32)) (p3 &&& (2147483647 : Int32)) (p4 &&& (2147483647 : Int32))))]))
  refine Done.step (fun t k => XS.lload X19.here hx rfl (hb hby at_135) rfl k) ?_
  show Done p e below s _ _ _ (T19.setTop (mkF m 137 #[.val (.int p1), .val (.int p2), .val (.int p3), .val (.int p4), .val (.int (p1 &&& (2147483647 : Int32))), .val (.int (p2 &&& (2147483647 : Int32))), .val (.int (p3 &&& (2147483647 : Int32))), .val (.int (p4 &&& (2147483647 : Int32))), .val (.ref b1), .val (.ref b6), .val (.long (F4 (p1 &&& (2147483647 : Int32)) (p2 &&& (2147483647 : Int32)) (p3 &&& (2147483647 : Int32)) (p4 &&& (2147483647 : Int32)))), .second, .val (.long (F4 (p3 &&& (2147483647 : Int32)) (p4 &&& (2147483647 : Int32)) (p1 &&& (2147483647 : Int32)) (p2 &&& (2147483647 : Int32)))), .second, .val (.long ((p1 &&& (2147483647 : Int32))).toInt64), .second, .val (.long ((p2 &&& (2147483647 : Int32))).toInt64), .second, .val (.long ((p3 &&& (2147483647 : Int32))).toInt64), .second, .val (.long ((p4 &&& (2147483647 : Int32))).toInt64), .second, .val (.long ((((((((p1 &&& (2147483647 : Int32))).toInt64 * ((p1 &&& (2147483647 : Int32))).toInt64) + (((p3 &&& (2147483647 : Int32))).toInt64 * ((p3 &&& (2147483647 : Int32))).toInt64)) - (((2 : Int64) * ((p1 &&& (2147483647 : Int32))).toInt64) * ((p3 &&& (2147483647 : Int32))).toInt64)) + (((p2 &&& (2147483647 : Int32))).toInt64 * ((p2 &&& (2147483647 : Int32))).toInt64)) + (((p4 &&& (2147483647 : Int32))).toInt64 * ((p4 &&& (2147483647 : Int32))).toInt64)) - (((2 : Int64) * ((p2 &&& (2147483647 : Int32))).toInt64) * ((p4 &&& (2147483647 : Int32))).toInt64))), .second] [(.long ((((((((p1 &&& (2147483647 : Int32))).toInt64 * ((p1 &&& (2147483647 : Int32))).toInt64) + (((p3 &&& (2147483647 : Int32))).toInt64 * ((p3 &&& (2147483647 : Int32))).toInt64)) - (((2 : Int64) * ((p1 &&& (2147483647 : Int32))).toInt64) * ((p3 &&& (2147483647 : Int32))).toInt64)) + (((p2 &&& (2147483647 : Int32))).toInt64 * ((p2 &&& (2147483647 : Int32))).toInt64)) + (((p4 &&& (2147483647 : Int32))).toInt64 * ((p4 &&& (2147483647 : Int32))).toInt64)) - (((2 : Int64) * ((p2 &&& (2147483647 : Int32))).toInt64) * ((p4 &&& (2147483647 : Int32))).toInt64))), (.long (F4 (p1 &&& (2147483647 : Int32)) (p2 &&& (2147483647 : Int32)) (p3 &&& (2147483647 : Int32)) (p4 &&& (2147483647 : Int32))))]))
  refine Done.step (fun t k => XS.lcmp X19.here hx rfl (hb hby at_137) rfl k) ?_
  show Done p e below s _ _ _ (T19.setTop (mkF m 138 #[.val (.int p1), .val (.int p2), .val (.int p3), .val (.int p4), .val (.int (p1 &&& (2147483647 : Int32))), .val (.int (p2 &&& (2147483647 : Int32))), .val (.int (p3 &&& (2147483647 : Int32))), .val (.int (p4 &&& (2147483647 : Int32))), .val (.ref b1), .val (.ref b6), .val (.long (F4 (p1 &&& (2147483647 : Int32)) (p2 &&& (2147483647 : Int32)) (p3 &&& (2147483647 : Int32)) (p4 &&& (2147483647 : Int32)))), .second, .val (.long (F4 (p3 &&& (2147483647 : Int32)) (p4 &&& (2147483647 : Int32)) (p1 &&& (2147483647 : Int32)) (p2 &&& (2147483647 : Int32)))), .second, .val (.long ((p1 &&& (2147483647 : Int32))).toInt64), .second, .val (.long ((p2 &&& (2147483647 : Int32))).toInt64), .second, .val (.long ((p3 &&& (2147483647 : Int32))).toInt64), .second, .val (.long ((p4 &&& (2147483647 : Int32))).toInt64), .second, .val (.long ((((((((p1 &&& (2147483647 : Int32))).toInt64 * ((p1 &&& (2147483647 : Int32))).toInt64) + (((p3 &&& (2147483647 : Int32))).toInt64 * ((p3 &&& (2147483647 : Int32))).toInt64)) - (((2 : Int64) * ((p1 &&& (2147483647 : Int32))).toInt64) * ((p3 &&& (2147483647 : Int32))).toInt64)) + (((p2 &&& (2147483647 : Int32))).toInt64 * ((p2 &&& (2147483647 : Int32))).toInt64)) + (((p4 &&& (2147483647 : Int32))).toInt64 * ((p4 &&& (2147483647 : Int32))).toInt64)) - (((2 : Int64) * ((p2 &&& (2147483647 : Int32))).toInt64) * ((p4 &&& (2147483647 : Int32))).toInt64))), .second] [(.int (lcmpW (F4 (p1 &&& (2147483647 : Int32)) (p2 &&& (2147483647 : Int32)) (p3 &&& (2147483647 : Int32)) (p4 &&& (2147483647 : Int32))) ((((((((p1 &&& (2147483647 : Int32))).toInt64 * ((p1 &&& (2147483647 : Int32))).toInt64) + (((p3 &&& (2147483647 : Int32))).toInt64 * ((p3 &&& (2147483647 : Int32))).toInt64)) - (((2 : Int64) * ((p1 &&& (2147483647 : Int32))).toInt64) * ((p3 &&& (2147483647 : Int32))).toInt64)) + (((p2 &&& (2147483647 : Int32))).toInt64 * ((p2 &&& (2147483647 : Int32))).toInt64)) + (((p4 &&& (2147483647 : Int32))).toInt64 * ((p4 &&& (2147483647 : Int32))).toInt64)) - (((2 : Int64) * ((p2 &&& (2147483647 : Int32))).toInt64) * ((p4 &&& (2147483647 : Int32))).toInt64))))]))
  by_cases c20 : (F4 (p1 &&& (2147483647 : Int32)) (p2 &&& (2147483647 : Int32)) (p3 &&& (2147483647 : Int32)) (p4 &&& (2147483647 : Int32))) = ((((((((p1 &&& (2147483647 : Int32))).toInt64 * ((p1 &&& (2147483647 : Int32))).toInt64) + (((p3 &&& (2147483647 : Int32))).toInt64 * ((p3 &&& (2147483647 : Int32))).toInt64)) - (((2 : Int64) * ((p1 &&& (2147483647 : Int32))).toInt64) * ((p3 &&& (2147483647 : Int32))).toInt64)) + (((p2 &&& (2147483647 : Int32))).toInt64 * ((p2 &&& (2147483647 : Int32))).toInt64)) + (((p4 &&& (2147483647 : Int32))).toInt64 * ((p4 &&& (2147483647 : Int32))).toInt64)) - (((2 : Int64) * ((p2 &&& (2147483647 : Int32))).toInt64) * ((p4 &&& (2147483647 : Int32))).toInt64))
  · refine Done.step (fun t k => XS.ifNo X19.here hx rfl (hb hby at_138) rfl ((if0 _ _).trans (teq ((lw_eq _ _).mpr c20)).2) k) ?_
    show Done p e below s _ _ _ (T19.setTop (mkF m 141 #[.val (.int p1), .val (.int p2), .val (.int p3), .val (.int p4), .val (.int (p1 &&& (2147483647 : Int32))), .val (.int (p2 &&& (2147483647 : Int32))), .val (.int (p3 &&& (2147483647 : Int32))), .val (.int (p4 &&& (2147483647 : Int32))), .val (.ref b1), .val (.ref b6), .val (.long (F4 (p1 &&& (2147483647 : Int32)) (p2 &&& (2147483647 : Int32)) (p3 &&& (2147483647 : Int32)) (p4 &&& (2147483647 : Int32)))), .second, .val (.long (F4 (p3 &&& (2147483647 : Int32)) (p4 &&& (2147483647 : Int32)) (p1 &&& (2147483647 : Int32)) (p2 &&& (2147483647 : Int32)))), .second, .val (.long ((p1 &&& (2147483647 : Int32))).toInt64), .second, .val (.long ((p2 &&& (2147483647 : Int32))).toInt64), .second, .val (.long ((p3 &&& (2147483647 : Int32))).toInt64), .second, .val (.long ((p4 &&& (2147483647 : Int32))).toInt64), .second, .val (.long ((((((((p1 &&& (2147483647 : Int32))).toInt64 * ((p1 &&& (2147483647 : Int32))).toInt64) + (((p3 &&& (2147483647 : Int32))).toInt64 * ((p3 &&& (2147483647 : Int32))).toInt64)) - (((2 : Int64) * ((p1 &&& (2147483647 : Int32))).toInt64) * ((p3 &&& (2147483647 : Int32))).toInt64)) + (((p2 &&& (2147483647 : Int32))).toInt64 * ((p2 &&& (2147483647 : Int32))).toInt64)) + (((p4 &&& (2147483647 : Int32))).toInt64 * ((p4 &&& (2147483647 : Int32))).toInt64)) - (((2 : Int64) * ((p2 &&& (2147483647 : Int32))).toInt64) * ((p4 &&& (2147483647 : Int32))).toInt64))), .second] []))
    refine Done.step (fun t k => XS.lload X19.here hx rfl (hb hby at_141) rfl k) ?_
    show Done p e below s _ _ _ (T19.setTop (mkF m 143 #[.val (.int p1), .val (.int p2), .val (.int p3), .val (.int p4), .val (.int (p1 &&& (2147483647 : Int32))), .val (.int (p2 &&& (2147483647 : Int32))), .val (.int (p3 &&& (2147483647 : Int32))), .val (.int (p4 &&& (2147483647 : Int32))), .val (.ref b1), .val (.ref b6), .val (.long (F4 (p1 &&& (2147483647 : Int32)) (p2 &&& (2147483647 : Int32)) (p3 &&& (2147483647 : Int32)) (p4 &&& (2147483647 : Int32)))), .second, .val (.long (F4 (p3 &&& (2147483647 : Int32)) (p4 &&& (2147483647 : Int32)) (p1 &&& (2147483647 : Int32)) (p2 &&& (2147483647 : Int32)))), .second, .val (.long ((p1 &&& (2147483647 : Int32))).toInt64), .second, .val (.long ((p2 &&& (2147483647 : Int32))).toInt64), .second, .val (.long ((p3 &&& (2147483647 : Int32))).toInt64), .second, .val (.long ((p4 &&& (2147483647 : Int32))).toInt64), .second, .val (.long ((((((((p1 &&& (2147483647 : Int32))).toInt64 * ((p1 &&& (2147483647 : Int32))).toInt64) + (((p3 &&& (2147483647 : Int32))).toInt64 * ((p3 &&& (2147483647 : Int32))).toInt64)) - (((2 : Int64) * ((p1 &&& (2147483647 : Int32))).toInt64) * ((p3 &&& (2147483647 : Int32))).toInt64)) + (((p2 &&& (2147483647 : Int32))).toInt64 * ((p2 &&& (2147483647 : Int32))).toInt64)) + (((p4 &&& (2147483647 : Int32))).toInt64 * ((p4 &&& (2147483647 : Int32))).toInt64)) - (((2 : Int64) * ((p2 &&& (2147483647 : Int32))).toInt64) * ((p4 &&& (2147483647 : Int32))).toInt64))), .second] [(.long (F4 (p1 &&& (2147483647 : Int32)) (p2 &&& (2147483647 : Int32)) (p3 &&& (2147483647 : Int32)) (p4 &&& (2147483647 : Int32))))]))
    refine Done.step (fun t k => XS.lconst X19.here hx rfl (hb hby at_143) k) ?_
    show Done p e below s _ _ _ (T19.setTop (mkF m 144 #[.val (.int p1), .val (.int p2), .val (.int p3), .val (.int p4), .val (.int (p1 &&& (2147483647 : Int32))), .val (.int (p2 &&& (2147483647 : Int32))), .val (.int (p3 &&& (2147483647 : Int32))), .val (.int (p4 &&& (2147483647 : Int32))), .val (.ref b1), .val (.ref b6), .val (.long (F4 (p1 &&& (2147483647 : Int32)) (p2 &&& (2147483647 : Int32)) (p3 &&& (2147483647 : Int32)) (p4 &&& (2147483647 : Int32)))), .second, .val (.long (F4 (p3 &&& (2147483647 : Int32)) (p4 &&& (2147483647 : Int32)) (p1 &&& (2147483647 : Int32)) (p2 &&& (2147483647 : Int32)))), .second, .val (.long ((p1 &&& (2147483647 : Int32))).toInt64), .second, .val (.long ((p2 &&& (2147483647 : Int32))).toInt64), .second, .val (.long ((p3 &&& (2147483647 : Int32))).toInt64), .second, .val (.long ((p4 &&& (2147483647 : Int32))).toInt64), .second, .val (.long ((((((((p1 &&& (2147483647 : Int32))).toInt64 * ((p1 &&& (2147483647 : Int32))).toInt64) + (((p3 &&& (2147483647 : Int32))).toInt64 * ((p3 &&& (2147483647 : Int32))).toInt64)) - (((2 : Int64) * ((p1 &&& (2147483647 : Int32))).toInt64) * ((p3 &&& (2147483647 : Int32))).toInt64)) + (((p2 &&& (2147483647 : Int32))).toInt64 * ((p2 &&& (2147483647 : Int32))).toInt64)) + (((p4 &&& (2147483647 : Int32))).toInt64 * ((p4 &&& (2147483647 : Int32))).toInt64)) - (((2 : Int64) * ((p2 &&& (2147483647 : Int32))).toInt64) * ((p4 &&& (2147483647 : Int32))).toInt64))), .second] [(.long (0 : Int64)), (.long (F4 (p1 &&& (2147483647 : Int32)) (p2 &&& (2147483647 : Int32)) (p3 &&& (2147483647 : Int32)) (p4 &&& (2147483647 : Int32))))]))
    refine Done.step (fun t k => XS.lcmp X19.here hx rfl (hb hby at_144) rfl k) ?_
    show Done p e below s _ _ _ (T19.setTop (mkF m 145 #[.val (.int p1), .val (.int p2), .val (.int p3), .val (.int p4), .val (.int (p1 &&& (2147483647 : Int32))), .val (.int (p2 &&& (2147483647 : Int32))), .val (.int (p3 &&& (2147483647 : Int32))), .val (.int (p4 &&& (2147483647 : Int32))), .val (.ref b1), .val (.ref b6), .val (.long (F4 (p1 &&& (2147483647 : Int32)) (p2 &&& (2147483647 : Int32)) (p3 &&& (2147483647 : Int32)) (p4 &&& (2147483647 : Int32)))), .second, .val (.long (F4 (p3 &&& (2147483647 : Int32)) (p4 &&& (2147483647 : Int32)) (p1 &&& (2147483647 : Int32)) (p2 &&& (2147483647 : Int32)))), .second, .val (.long ((p1 &&& (2147483647 : Int32))).toInt64), .second, .val (.long ((p2 &&& (2147483647 : Int32))).toInt64), .second, .val (.long ((p3 &&& (2147483647 : Int32))).toInt64), .second, .val (.long ((p4 &&& (2147483647 : Int32))).toInt64), .second, .val (.long ((((((((p1 &&& (2147483647 : Int32))).toInt64 * ((p1 &&& (2147483647 : Int32))).toInt64) + (((p3 &&& (2147483647 : Int32))).toInt64 * ((p3 &&& (2147483647 : Int32))).toInt64)) - (((2 : Int64) * ((p1 &&& (2147483647 : Int32))).toInt64) * ((p3 &&& (2147483647 : Int32))).toInt64)) + (((p2 &&& (2147483647 : Int32))).toInt64 * ((p2 &&& (2147483647 : Int32))).toInt64)) + (((p4 &&& (2147483647 : Int32))).toInt64 * ((p4 &&& (2147483647 : Int32))).toInt64)) - (((2 : Int64) * ((p2 &&& (2147483647 : Int32))).toInt64) * ((p4 &&& (2147483647 : Int32))).toInt64))), .second] [(.int (lcmpW (F4 (p1 &&& (2147483647 : Int32)) (p2 &&& (2147483647 : Int32)) (p3 &&& (2147483647 : Int32)) (p4 &&& (2147483647 : Int32))) (0 : Int64)))]))
    by_cases c21 : (F4 (p1 &&& (2147483647 : Int32)) (p2 &&& (2147483647 : Int32)) (p3 &&& (2147483647 : Int32)) (p4 &&& (2147483647 : Int32))) < (0 : Int64)
    · refine Done.step (fun t k => XS.ifYes X19.here hx rfl (pc0 := 145) (pc' := 160) rfl (hb hby at_145) rfl ((if0 _ _).trans (tlt ((lw_lt _ _).mpr c21)).1) (by decide) (by decide) k) ?_
      show Done p e below s _ _ _ (T19.setTop (mkF m 160 #[.val (.int p1), .val (.int p2), .val (.int p3), .val (.int p4), .val (.int (p1 &&& (2147483647 : Int32))), .val (.int (p2 &&& (2147483647 : Int32))), .val (.int (p3 &&& (2147483647 : Int32))), .val (.int (p4 &&& (2147483647 : Int32))), .val (.ref b1), .val (.ref b6), .val (.long (F4 (p1 &&& (2147483647 : Int32)) (p2 &&& (2147483647 : Int32)) (p3 &&& (2147483647 : Int32)) (p4 &&& (2147483647 : Int32)))), .second, .val (.long (F4 (p3 &&& (2147483647 : Int32)) (p4 &&& (2147483647 : Int32)) (p1 &&& (2147483647 : Int32)) (p2 &&& (2147483647 : Int32)))), .second, .val (.long ((p1 &&& (2147483647 : Int32))).toInt64), .second, .val (.long ((p2 &&& (2147483647 : Int32))).toInt64), .second, .val (.long ((p3 &&& (2147483647 : Int32))).toInt64), .second, .val (.long ((p4 &&& (2147483647 : Int32))).toInt64), .second, .val (.long ((((((((p1 &&& (2147483647 : Int32))).toInt64 * ((p1 &&& (2147483647 : Int32))).toInt64) + (((p3 &&& (2147483647 : Int32))).toInt64 * ((p3 &&& (2147483647 : Int32))).toInt64)) - (((2 : Int64) * ((p1 &&& (2147483647 : Int32))).toInt64) * ((p3 &&& (2147483647 : Int32))).toInt64)) + (((p2 &&& (2147483647 : Int32))).toInt64 * ((p2 &&& (2147483647 : Int32))).toInt64)) + (((p4 &&& (2147483647 : Int32))).toInt64 * ((p4 &&& (2147483647 : Int32))).toInt64)) - (((2 : Int64) * ((p2 &&& (2147483647 : Int32))).toInt64) * ((p4 &&& (2147483647 : Int32))).toInt64))), .second] []))
      refine Done.step (fun t k => XS.iconst X19.here hx rfl (hb hby at_160) k) ?_
      show Done p e below s _ _ _ (T19.setTop (mkF m 161 #[.val (.int p1), .val (.int p2), .val (.int p3), .val (.int p4), .val (.int (p1 &&& (2147483647 : Int32))), .val (.int (p2 &&& (2147483647 : Int32))), .val (.int (p3 &&& (2147483647 : Int32))), .val (.int (p4 &&& (2147483647 : Int32))), .val (.ref b1), .val (.ref b6), .val (.long (F4 (p1 &&& (2147483647 : Int32)) (p2 &&& (2147483647 : Int32)) (p3 &&& (2147483647 : Int32)) (p4 &&& (2147483647 : Int32)))), .second, .val (.long (F4 (p3 &&& (2147483647 : Int32)) (p4 &&& (2147483647 : Int32)) (p1 &&& (2147483647 : Int32)) (p2 &&& (2147483647 : Int32)))), .second, .val (.long ((p1 &&& (2147483647 : Int32))).toInt64), .second, .val (.long ((p2 &&& (2147483647 : Int32))).toInt64), .second, .val (.long ((p3 &&& (2147483647 : Int32))).toInt64), .second, .val (.long ((p4 &&& (2147483647 : Int32))).toInt64), .second, .val (.long ((((((((p1 &&& (2147483647 : Int32))).toInt64 * ((p1 &&& (2147483647 : Int32))).toInt64) + (((p3 &&& (2147483647 : Int32))).toInt64 * ((p3 &&& (2147483647 : Int32))).toInt64)) - (((2 : Int64) * ((p1 &&& (2147483647 : Int32))).toInt64) * ((p3 &&& (2147483647 : Int32))).toInt64)) + (((p2 &&& (2147483647 : Int32))).toInt64 * ((p2 &&& (2147483647 : Int32))).toInt64)) + (((p4 &&& (2147483647 : Int32))).toInt64 * ((p4 &&& (2147483647 : Int32))).toInt64)) - (((2 : Int64) * ((p2 &&& (2147483647 : Int32))).toInt64) * ((p4 &&& (2147483647 : Int32))).toInt64))), .second] [(.int (0 : Int32))]))
      exact Done.narr X19 hx hlk hret (by simp) (hb hby at_161) (by decide) (by decide) ⟨by rw [← law_one p1 p2 p3 p4, show F0 p1 p2 p3 p4 = (0 : Int32) from by unfold F0; rw [if_pos c20, if_pos c21]] <;> rfl, N19⟩
    · refine Done.step (fun t k => XS.ifNo X19.here hx rfl (hb hby at_145) rfl ((if0 _ _).trans (flt (fun q_ => c21 ((lw_lt _ _).mp q_))).1) k) ?_
      show Done p e below s _ _ _ (T19.setTop (mkF m 148 #[.val (.int p1), .val (.int p2), .val (.int p3), .val (.int p4), .val (.int (p1 &&& (2147483647 : Int32))), .val (.int (p2 &&& (2147483647 : Int32))), .val (.int (p3 &&& (2147483647 : Int32))), .val (.int (p4 &&& (2147483647 : Int32))), .val (.ref b1), .val (.ref b6), .val (.long (F4 (p1 &&& (2147483647 : Int32)) (p2 &&& (2147483647 : Int32)) (p3 &&& (2147483647 : Int32)) (p4 &&& (2147483647 : Int32)))), .second, .val (.long (F4 (p3 &&& (2147483647 : Int32)) (p4 &&& (2147483647 : Int32)) (p1 &&& (2147483647 : Int32)) (p2 &&& (2147483647 : Int32)))), .second, .val (.long ((p1 &&& (2147483647 : Int32))).toInt64), .second, .val (.long ((p2 &&& (2147483647 : Int32))).toInt64), .second, .val (.long ((p3 &&& (2147483647 : Int32))).toInt64), .second, .val (.long ((p4 &&& (2147483647 : Int32))).toInt64), .second, .val (.long ((((((((p1 &&& (2147483647 : Int32))).toInt64 * ((p1 &&& (2147483647 : Int32))).toInt64) + (((p3 &&& (2147483647 : Int32))).toInt64 * ((p3 &&& (2147483647 : Int32))).toInt64)) - (((2 : Int64) * ((p1 &&& (2147483647 : Int32))).toInt64) * ((p3 &&& (2147483647 : Int32))).toInt64)) + (((p2 &&& (2147483647 : Int32))).toInt64 * ((p2 &&& (2147483647 : Int32))).toInt64)) + (((p4 &&& (2147483647 : Int32))).toInt64 * ((p4 &&& (2147483647 : Int32))).toInt64)) - (((2 : Int64) * ((p2 &&& (2147483647 : Int32))).toInt64) * ((p4 &&& (2147483647 : Int32))).toInt64))), .second] []))
      refine Done.step (fun t k => XS.lload X19.here hx rfl (hb hby at_148) rfl k) ?_
      show Done p e below s _ _ _ (T19.setTop (mkF m 150 #[.val (.int p1), .val (.int p2), .val (.int p3), .val (.int p4), .val (.int (p1 &&& (2147483647 : Int32))), .val (.int (p2 &&& (2147483647 : Int32))), .val (.int (p3 &&& (2147483647 : Int32))), .val (.int (p4 &&& (2147483647 : Int32))), .val (.ref b1), .val (.ref b6), .val (.long (F4 (p1 &&& (2147483647 : Int32)) (p2 &&& (2147483647 : Int32)) (p3 &&& (2147483647 : Int32)) (p4 &&& (2147483647 : Int32)))), .second, .val (.long (F4 (p3 &&& (2147483647 : Int32)) (p4 &&& (2147483647 : Int32)) (p1 &&& (2147483647 : Int32)) (p2 &&& (2147483647 : Int32)))), .second, .val (.long ((p1 &&& (2147483647 : Int32))).toInt64), .second, .val (.long ((p2 &&& (2147483647 : Int32))).toInt64), .second, .val (.long ((p3 &&& (2147483647 : Int32))).toInt64), .second, .val (.long ((p4 &&& (2147483647 : Int32))).toInt64), .second, .val (.long ((((((((p1 &&& (2147483647 : Int32))).toInt64 * ((p1 &&& (2147483647 : Int32))).toInt64) + (((p3 &&& (2147483647 : Int32))).toInt64 * ((p3 &&& (2147483647 : Int32))).toInt64)) - (((2 : Int64) * ((p1 &&& (2147483647 : Int32))).toInt64) * ((p3 &&& (2147483647 : Int32))).toInt64)) + (((p2 &&& (2147483647 : Int32))).toInt64 * ((p2 &&& (2147483647 : Int32))).toInt64)) + (((p4 &&& (2147483647 : Int32))).toInt64 * ((p4 &&& (2147483647 : Int32))).toInt64)) - (((2 : Int64) * ((p2 &&& (2147483647 : Int32))).toInt64) * ((p4 &&& (2147483647 : Int32))).toInt64))), .second] [(.long (F4 (p3 &&& (2147483647 : Int32)) (p4 &&& (2147483647 : Int32)) (p1 &&& (2147483647 : Int32)) (p2 &&& (2147483647 : Int32))))]))
      refine Done.step (fun t k => XS.lload X19.here hx rfl (hb hby at_150) rfl k) ?_
      show Done p e below s _ _ _ (T19.setTop (mkF m 152 #[.val (.int p1), .val (.int p2), .val (.int p3), .val (.int p4), .val (.int (p1 &&& (2147483647 : Int32))), .val (.int (p2 &&& (2147483647 : Int32))), .val (.int (p3 &&& (2147483647 : Int32))), .val (.int (p4 &&& (2147483647 : Int32))), .val (.ref b1), .val (.ref b6), .val (.long (F4 (p1 &&& (2147483647 : Int32)) (p2 &&& (2147483647 : Int32)) (p3 &&& (2147483647 : Int32)) (p4 &&& (2147483647 : Int32)))), .second, .val (.long (F4 (p3 &&& (2147483647 : Int32)) (p4 &&& (2147483647 : Int32)) (p1 &&& (2147483647 : Int32)) (p2 &&& (2147483647 : Int32)))), .second, .val (.long ((p1 &&& (2147483647 : Int32))).toInt64), .second, .val (.long ((p2 &&& (2147483647 : Int32))).toInt64), .second, .val (.long ((p3 &&& (2147483647 : Int32))).toInt64), .second, .val (.long ((p4 &&& (2147483647 : Int32))).toInt64), .second, .val (.long ((((((((p1 &&& (2147483647 : Int32))).toInt64 * ((p1 &&& (2147483647 : Int32))).toInt64) + (((p3 &&& (2147483647 : Int32))).toInt64 * ((p3 &&& (2147483647 : Int32))).toInt64)) - (((2 : Int64) * ((p1 &&& (2147483647 : Int32))).toInt64) * ((p3 &&& (2147483647 : Int32))).toInt64)) + (((p2 &&& (2147483647 : Int32))).toInt64 * ((p2 &&& (2147483647 : Int32))).toInt64)) + (((p4 &&& (2147483647 : Int32))).toInt64 * ((p4 &&& (2147483647 : Int32))).toInt64)) - (((2 : Int64) * ((p2 &&& (2147483647 : Int32))).toInt64) * ((p4 &&& (2147483647 : Int32))).toInt64))), .second] [(.long (F4 (p1 &&& (2147483647 : Int32)) (p2 &&& (2147483647 : Int32)) (p3 &&& (2147483647 : Int32)) (p4 &&& (2147483647 : Int32)))), (.long (F4 (p3 &&& (2147483647 : Int32)) (p4 &&& (2147483647 : Int32)) (p1 &&& (2147483647 : Int32)) (p2 &&& (2147483647 : Int32))))]))
      refine Done.step (fun t k => XS.lcmp X19.here hx rfl (hb hby at_152) rfl k) ?_
      show Done p e below s _ _ _ (T19.setTop (mkF m 153 #[.val (.int p1), .val (.int p2), .val (.int p3), .val (.int p4), .val (.int (p1 &&& (2147483647 : Int32))), .val (.int (p2 &&& (2147483647 : Int32))), .val (.int (p3 &&& (2147483647 : Int32))), .val (.int (p4 &&& (2147483647 : Int32))), .val (.ref b1), .val (.ref b6), .val (.long (F4 (p1 &&& (2147483647 : Int32)) (p2 &&& (2147483647 : Int32)) (p3 &&& (2147483647 : Int32)) (p4 &&& (2147483647 : Int32)))), .second, .val (.long (F4 (p3 &&& (2147483647 : Int32)) (p4 &&& (2147483647 : Int32)) (p1 &&& (2147483647 : Int32)) (p2 &&& (2147483647 : Int32)))), .second, .val (.long ((p1 &&& (2147483647 : Int32))).toInt64), .second, .val (.long ((p2 &&& (2147483647 : Int32))).toInt64), .second, .val (.long ((p3 &&& (2147483647 : Int32))).toInt64), .second, .val (.long ((p4 &&& (2147483647 : Int32))).toInt64), .second, .val (.long ((((((((p1 &&& (2147483647 : Int32))).toInt64 * ((p1 &&& (2147483647 : Int32))).toInt64) + (((p3 &&& (2147483647 : Int32))).toInt64 * ((p3 &&& (2147483647 : Int32))).toInt64)) - (((2 : Int64) * ((p1 &&& (2147483647 : Int32))).toInt64) * ((p3 &&& (2147483647 : Int32))).toInt64)) + (((p2 &&& (2147483647 : Int32))).toInt64 * ((p2 &&& (2147483647 : Int32))).toInt64)) + (((p4 &&& (2147483647 : Int32))).toInt64 * ((p4 &&& (2147483647 : Int32))).toInt64)) - (((2 : Int64) * ((p2 &&& (2147483647 : Int32))).toInt64) * ((p4 &&& (2147483647 : Int32))).toInt64))), .second] [(.int (lcmpW (F4 (p3 &&& (2147483647 : Int32)) (p4 &&& (2147483647 : Int32)) (p1 &&& (2147483647 : Int32)) (p2 &&& (2147483647 : Int32))) (F4 (p1 &&& (2147483647 : Int32)) (p2 &&& (2147483647 : Int32)) (p3 &&& (2147483647 : Int32)) (p4 &&& (2147483647 : Int32)))))]))
      by_cases c22 : (F4 (p3 &&& (2147483647 : Int32)) (p4 &&& (2147483647 : Int32)) (p1 &&& (2147483647 : Int32)) (p2 &&& (2147483647 : Int32))) = (F4 (p1 &&& (2147483647 : Int32)) (p2 &&& (2147483647 : Int32)) (p3 &&& (2147483647 : Int32)) (p4 &&& (2147483647 : Int32)))
      · refine Done.step (fun t k => XS.ifNo X19.here hx rfl (hb hby at_153) rfl ((if0 _ _).trans (teq ((lw_eq _ _).mpr c22)).2) k) ?_
        show Done p e below s _ _ _ (T19.setTop (mkF m 156 #[.val (.int p1), .val (.int p2), .val (.int p3), .val (.int p4), .val (.int (p1 &&& (2147483647 : Int32))), .val (.int (p2 &&& (2147483647 : Int32))), .val (.int (p3 &&& (2147483647 : Int32))), .val (.int (p4 &&& (2147483647 : Int32))), .val (.ref b1), .val (.ref b6), .val (.long (F4 (p1 &&& (2147483647 : Int32)) (p2 &&& (2147483647 : Int32)) (p3 &&& (2147483647 : Int32)) (p4 &&& (2147483647 : Int32)))), .second, .val (.long (F4 (p3 &&& (2147483647 : Int32)) (p4 &&& (2147483647 : Int32)) (p1 &&& (2147483647 : Int32)) (p2 &&& (2147483647 : Int32)))), .second, .val (.long ((p1 &&& (2147483647 : Int32))).toInt64), .second, .val (.long ((p2 &&& (2147483647 : Int32))).toInt64), .second, .val (.long ((p3 &&& (2147483647 : Int32))).toInt64), .second, .val (.long ((p4 &&& (2147483647 : Int32))).toInt64), .second, .val (.long ((((((((p1 &&& (2147483647 : Int32))).toInt64 * ((p1 &&& (2147483647 : Int32))).toInt64) + (((p3 &&& (2147483647 : Int32))).toInt64 * ((p3 &&& (2147483647 : Int32))).toInt64)) - (((2 : Int64) * ((p1 &&& (2147483647 : Int32))).toInt64) * ((p3 &&& (2147483647 : Int32))).toInt64)) + (((p2 &&& (2147483647 : Int32))).toInt64 * ((p2 &&& (2147483647 : Int32))).toInt64)) + (((p4 &&& (2147483647 : Int32))).toInt64 * ((p4 &&& (2147483647 : Int32))).toInt64)) - (((2 : Int64) * ((p2 &&& (2147483647 : Int32))).toInt64) * ((p4 &&& (2147483647 : Int32))).toInt64))), .second] []))
        refine Done.step (fun t k => XS.iconst X19.here hx rfl (hb hby at_156) k) ?_
        show Done p e below s _ _ _ (T19.setTop (mkF m 157 #[.val (.int p1), .val (.int p2), .val (.int p3), .val (.int p4), .val (.int (p1 &&& (2147483647 : Int32))), .val (.int (p2 &&& (2147483647 : Int32))), .val (.int (p3 &&& (2147483647 : Int32))), .val (.int (p4 &&& (2147483647 : Int32))), .val (.ref b1), .val (.ref b6), .val (.long (F4 (p1 &&& (2147483647 : Int32)) (p2 &&& (2147483647 : Int32)) (p3 &&& (2147483647 : Int32)) (p4 &&& (2147483647 : Int32)))), .second, .val (.long (F4 (p3 &&& (2147483647 : Int32)) (p4 &&& (2147483647 : Int32)) (p1 &&& (2147483647 : Int32)) (p2 &&& (2147483647 : Int32)))), .second, .val (.long ((p1 &&& (2147483647 : Int32))).toInt64), .second, .val (.long ((p2 &&& (2147483647 : Int32))).toInt64), .second, .val (.long ((p3 &&& (2147483647 : Int32))).toInt64), .second, .val (.long ((p4 &&& (2147483647 : Int32))).toInt64), .second, .val (.long ((((((((p1 &&& (2147483647 : Int32))).toInt64 * ((p1 &&& (2147483647 : Int32))).toInt64) + (((p3 &&& (2147483647 : Int32))).toInt64 * ((p3 &&& (2147483647 : Int32))).toInt64)) - (((2 : Int64) * ((p1 &&& (2147483647 : Int32))).toInt64) * ((p3 &&& (2147483647 : Int32))).toInt64)) + (((p2 &&& (2147483647 : Int32))).toInt64 * ((p2 &&& (2147483647 : Int32))).toInt64)) + (((p4 &&& (2147483647 : Int32))).toInt64 * ((p4 &&& (2147483647 : Int32))).toInt64)) - (((2 : Int64) * ((p2 &&& (2147483647 : Int32))).toInt64) * ((p4 &&& (2147483647 : Int32))).toInt64))), .second] [(.int (1 : Int32))]))
        refine Done.step (fun t k => XS.goto X19.here hx rfl (pc0 := 157) (pc' := 161) rfl (hb hby at_157) (by decide) (by decide) k) ?_
        show Done p e below s _ _ _ (T19.setTop (mkF m 161 #[.val (.int p1), .val (.int p2), .val (.int p3), .val (.int p4), .val (.int (p1 &&& (2147483647 : Int32))), .val (.int (p2 &&& (2147483647 : Int32))), .val (.int (p3 &&& (2147483647 : Int32))), .val (.int (p4 &&& (2147483647 : Int32))), .val (.ref b1), .val (.ref b6), .val (.long (F4 (p1 &&& (2147483647 : Int32)) (p2 &&& (2147483647 : Int32)) (p3 &&& (2147483647 : Int32)) (p4 &&& (2147483647 : Int32)))), .second, .val (.long (F4 (p3 &&& (2147483647 : Int32)) (p4 &&& (2147483647 : Int32)) (p1 &&& (2147483647 : Int32)) (p2 &&& (2147483647 : Int32)))), .second, .val (.long ((p1 &&& (2147483647 : Int32))).toInt64), .second, .val (.long ((p2 &&& (2147483647 : Int32))).toInt64), .second, .val (.long ((p3 &&& (2147483647 : Int32))).toInt64), .second, .val (.long ((p4 &&& (2147483647 : Int32))).toInt64), .second, .val (.long ((((((((p1 &&& (2147483647 : Int32))).toInt64 * ((p1 &&& (2147483647 : Int32))).toInt64) + (((p3 &&& (2147483647 : Int32))).toInt64 * ((p3 &&& (2147483647 : Int32))).toInt64)) - (((2 : Int64) * ((p1 &&& (2147483647 : Int32))).toInt64) * ((p3 &&& (2147483647 : Int32))).toInt64)) + (((p2 &&& (2147483647 : Int32))).toInt64 * ((p2 &&& (2147483647 : Int32))).toInt64)) + (((p4 &&& (2147483647 : Int32))).toInt64 * ((p4 &&& (2147483647 : Int32))).toInt64)) - (((2 : Int64) * ((p2 &&& (2147483647 : Int32))).toInt64) * ((p4 &&& (2147483647 : Int32))).toInt64))), .second] [(.int (1 : Int32))]))
        exact Done.narr X19 hx hlk hret (by simp) (hb hby at_161) (by decide) (by decide) ⟨by rw [← law_one p1 p2 p3 p4, show F0 p1 p2 p3 p4 = (1 : Int32) from by unfold F0; rw [if_pos c20, if_neg c21, if_pos c22]] <;> rfl, N19⟩
      · refine Done.step (fun t k => XS.ifYes X19.here hx rfl (pc0 := 153) (pc' := 160) rfl (hb hby at_153) rfl ((if0 _ _).trans (feq (fun q_ => c22 ((lw_eq _ _).mp q_))).2) (by decide) (by decide) k) ?_
        show Done p e below s _ _ _ (T19.setTop (mkF m 160 #[.val (.int p1), .val (.int p2), .val (.int p3), .val (.int p4), .val (.int (p1 &&& (2147483647 : Int32))), .val (.int (p2 &&& (2147483647 : Int32))), .val (.int (p3 &&& (2147483647 : Int32))), .val (.int (p4 &&& (2147483647 : Int32))), .val (.ref b1), .val (.ref b6), .val (.long (F4 (p1 &&& (2147483647 : Int32)) (p2 &&& (2147483647 : Int32)) (p3 &&& (2147483647 : Int32)) (p4 &&& (2147483647 : Int32)))), .second, .val (.long (F4 (p3 &&& (2147483647 : Int32)) (p4 &&& (2147483647 : Int32)) (p1 &&& (2147483647 : Int32)) (p2 &&& (2147483647 : Int32)))), .second, .val (.long ((p1 &&& (2147483647 : Int32))).toInt64), .second, .val (.long ((p2 &&& (2147483647 : Int32))).toInt64), .second, .val (.long ((p3 &&& (2147483647 : Int32))).toInt64), .second, .val (.long ((p4 &&& (2147483647 : Int32))).toInt64), .second, .val (.long ((((((((p1 &&& (2147483647 : Int32))).toInt64 * ((p1 &&& (2147483647 : Int32))).toInt64) + (((p3 &&& (2147483647 : Int32))).toInt64 * ((p3 &&& (2147483647 : Int32))).toInt64)) - (((2 : Int64) * ((p1 &&& (2147483647 : Int32))).toInt64) * ((p3 &&& (2147483647 : Int32))).toInt64)) + (((p2 &&& (2147483647 : Int32))).toInt64 * ((p2 &&& (2147483647 : Int32))).toInt64)) + (((p4 &&& (2147483647 : Int32))).toInt64 * ((p4 &&& (2147483647 : Int32))).toInt64)) - (((2 : Int64) * ((p2 &&& (2147483647 : Int32))).toInt64) * ((p4 &&& (2147483647 : Int32))).toInt64))), .second] []))
        refine Done.step (fun t k => XS.iconst X19.here hx rfl (hb hby at_160) k) ?_
        show Done p e below s _ _ _ (T19.setTop (mkF m 161 #[.val (.int p1), .val (.int p2), .val (.int p3), .val (.int p4), .val (.int (p1 &&& (2147483647 : Int32))), .val (.int (p2 &&& (2147483647 : Int32))), .val (.int (p3 &&& (2147483647 : Int32))), .val (.int (p4 &&& (2147483647 : Int32))), .val (.ref b1), .val (.ref b6), .val (.long (F4 (p1 &&& (2147483647 : Int32)) (p2 &&& (2147483647 : Int32)) (p3 &&& (2147483647 : Int32)) (p4 &&& (2147483647 : Int32)))), .second, .val (.long (F4 (p3 &&& (2147483647 : Int32)) (p4 &&& (2147483647 : Int32)) (p1 &&& (2147483647 : Int32)) (p2 &&& (2147483647 : Int32)))), .second, .val (.long ((p1 &&& (2147483647 : Int32))).toInt64), .second, .val (.long ((p2 &&& (2147483647 : Int32))).toInt64), .second, .val (.long ((p3 &&& (2147483647 : Int32))).toInt64), .second, .val (.long ((p4 &&& (2147483647 : Int32))).toInt64), .second, .val (.long ((((((((p1 &&& (2147483647 : Int32))).toInt64 * ((p1 &&& (2147483647 : Int32))).toInt64) + (((p3 &&& (2147483647 : Int32))).toInt64 * ((p3 &&& (2147483647 : Int32))).toInt64)) - (((2 : Int64) * ((p1 &&& (2147483647 : Int32))).toInt64) * ((p3 &&& (2147483647 : Int32))).toInt64)) + (((p2 &&& (2147483647 : Int32))).toInt64 * ((p2 &&& (2147483647 : Int32))).toInt64)) + (((p4 &&& (2147483647 : Int32))).toInt64 * ((p4 &&& (2147483647 : Int32))).toInt64)) - (((2 : Int64) * ((p2 &&& (2147483647 : Int32))).toInt64) * ((p4 &&& (2147483647 : Int32))).toInt64))), .second] [(.int (0 : Int32))]))
        exact Done.narr X19 hx hlk hret (by simp) (hb hby at_161) (by decide) (by decide) ⟨by rw [← law_one p1 p2 p3 p4, show F0 p1 p2 p3 p4 = (0 : Int32) from by unfold F0; rw [if_pos c20, if_neg c21, if_neg c22]] <;> rfl, N19⟩
  · refine Done.step (fun t k => XS.ifYes X19.here hx rfl (pc0 := 138) (pc' := 160) rfl (hb hby at_138) rfl ((if0 _ _).trans (feq (fun q_ => c20 ((lw_eq _ _).mp q_))).2) (by decide) (by decide) k) ?_
    show Done p e below s _ _ _ (T19.setTop (mkF m 160 #[.val (.int p1), .val (.int p2), .val (.int p3), .val (.int p4), .val (.int (p1 &&& (2147483647 : Int32))), .val (.int (p2 &&& (2147483647 : Int32))), .val (.int (p3 &&& (2147483647 : Int32))), .val (.int (p4 &&& (2147483647 : Int32))), .val (.ref b1), .val (.ref b6), .val (.long (F4 (p1 &&& (2147483647 : Int32)) (p2 &&& (2147483647 : Int32)) (p3 &&& (2147483647 : Int32)) (p4 &&& (2147483647 : Int32)))), .second, .val (.long (F4 (p3 &&& (2147483647 : Int32)) (p4 &&& (2147483647 : Int32)) (p1 &&& (2147483647 : Int32)) (p2 &&& (2147483647 : Int32)))), .second, .val (.long ((p1 &&& (2147483647 : Int32))).toInt64), .second, .val (.long ((p2 &&& (2147483647 : Int32))).toInt64), .second, .val (.long ((p3 &&& (2147483647 : Int32))).toInt64), .second, .val (.long ((p4 &&& (2147483647 : Int32))).toInt64), .second, .val (.long ((((((((p1 &&& (2147483647 : Int32))).toInt64 * ((p1 &&& (2147483647 : Int32))).toInt64) + (((p3 &&& (2147483647 : Int32))).toInt64 * ((p3 &&& (2147483647 : Int32))).toInt64)) - (((2 : Int64) * ((p1 &&& (2147483647 : Int32))).toInt64) * ((p3 &&& (2147483647 : Int32))).toInt64)) + (((p2 &&& (2147483647 : Int32))).toInt64 * ((p2 &&& (2147483647 : Int32))).toInt64)) + (((p4 &&& (2147483647 : Int32))).toInt64 * ((p4 &&& (2147483647 : Int32))).toInt64)) - (((2 : Int64) * ((p2 &&& (2147483647 : Int32))).toInt64) * ((p4 &&& (2147483647 : Int32))).toInt64))), .second] []))
    refine Done.step (fun t k => XS.iconst X19.here hx rfl (hb hby at_160) k) ?_
    show Done p e below s _ _ _ (T19.setTop (mkF m 161 #[.val (.int p1), .val (.int p2), .val (.int p3), .val (.int p4), .val (.int (p1 &&& (2147483647 : Int32))), .val (.int (p2 &&& (2147483647 : Int32))), .val (.int (p3 &&& (2147483647 : Int32))), .val (.int (p4 &&& (2147483647 : Int32))), .val (.ref b1), .val (.ref b6), .val (.long (F4 (p1 &&& (2147483647 : Int32)) (p2 &&& (2147483647 : Int32)) (p3 &&& (2147483647 : Int32)) (p4 &&& (2147483647 : Int32)))), .second, .val (.long (F4 (p3 &&& (2147483647 : Int32)) (p4 &&& (2147483647 : Int32)) (p1 &&& (2147483647 : Int32)) (p2 &&& (2147483647 : Int32)))), .second, .val (.long ((p1 &&& (2147483647 : Int32))).toInt64), .second, .val (.long ((p2 &&& (2147483647 : Int32))).toInt64), .second, .val (.long ((p3 &&& (2147483647 : Int32))).toInt64), .second, .val (.long ((p4 &&& (2147483647 : Int32))).toInt64), .second, .val (.long ((((((((p1 &&& (2147483647 : Int32))).toInt64 * ((p1 &&& (2147483647 : Int32))).toInt64) + (((p3 &&& (2147483647 : Int32))).toInt64 * ((p3 &&& (2147483647 : Int32))).toInt64)) - (((2 : Int64) * ((p1 &&& (2147483647 : Int32))).toInt64) * ((p3 &&& (2147483647 : Int32))).toInt64)) + (((p2 &&& (2147483647 : Int32))).toInt64 * ((p2 &&& (2147483647 : Int32))).toInt64)) + (((p4 &&& (2147483647 : Int32))).toInt64 * ((p4 &&& (2147483647 : Int32))).toInt64)) - (((2 : Int64) * ((p2 &&& (2147483647 : Int32))).toInt64) * ((p4 &&& (2147483647 : Int32))).toInt64))), .second] [(.int (0 : Int32))]))
    exact Done.narr X19 hx hlk hret (by simp) (hb hby at_161) (by decide) (by decide) ⟨by rw [← law_one p1 p2 p3 p4, show F0 p1 p2 p3 p4 = (0 : Int32) from by unfold F0; rw [if_neg c20]] <;> rfl, N19⟩
set_option maxRecDepth 65536 in
set_option maxHeartbeats 40000000 in
theorem comes_1 {Post : Tables → Env → Array Value → State → Outcome → State → Prop} (hpost : ∀ tb e args s v u, (limb_1_1.after args s (.returned v) u = true ∧ limb_1_2.after args s (.returned v) u = true ∧ True) → FrameEnd s (.returned v) u (Jvm.fieldLocs frame_1_writes args s ++ Jvm.arrayLocs frame_1_arrays args s ++ Jvm.staticLocs frame_1_statics s) 16 128 → Post tb e args s (.returned v) u) :
    ArmFor flags0 classFile x code maxLocals ret World_1 tables_1 room_1 Calls_1 rest_1 Pre_1 Post := by
  intro l hfl _ _ p e ha hc hk s m args below hf hA hF happ hP
  obtain ⟨hcalls, hrest, hpre⟩ := hP
  obtain ⟨-, -, -, hnamed, -, -, -, hat⟩ := (Spec.applies_iff hf).mp happ
  obtain ⟨hg, hn⟩ := and_e (Cond.before_iff.mp (show (Jvm.Cond.and given_1 narrow_1).before args s = true from hpre))
  obtain ⟨hcnt, g0⟩ := and_e hg
  obtain ⟨u0, g1⟩ := and_e g0
  obtain ⟨u1, g2⟩ := and_e g1
  obtain ⟨u2, g3⟩ := and_e g2
  have u3 := g3
  obtain ⟨w0, w1, w2, w3, rfl⟩ : ∃ w0 w1 w2 w3 : Value, args = #[w0, w1, w2, w3] := by
    have hs : args.size = 4 := by simpa [Cond.value, given_1] using hcnt
    obtain ⟨L⟩ := args
    match L, hs with
    | [w0, w1, w2, w3], _ => exact ⟨w0, w1, w2, w3, rfl⟩
  have hw := fun d (hd : d ∈ tables_1) => atoms_spec (ws := Jvm.Cond.code x code maxLocals ret :: tables_1) hat d (List.mem_cons_of_mem _ hd)
  have hfit : Fit s := fun {y c} hc i hi => by
    obtain ⟨ha, rfl⟩ := Array.getElem?_eq_some_iff.mp hc
    have q := List.all_eq_true.mp ((Array.all_eq_true_iff_forall_mem.mp hF) _ (Array.getElem_mem ha)) i (List.mem_range.mpr hi)
    simpa [Array.getElem?_eq_getElem hi] using q
  obtain ⟨i0, ei0⟩ := is_v u0
  obtain rfl : w0 = (.int i0) := Option.some.inj ei0
  obtain ⟨i1, ei1⟩ := is_v u1
  obtain rfl : w1 = (.int i1) := Option.some.inj ei1
  obtain ⟨i2, ei2⟩ := is_v u2
  obtain rfl : w2 = (.int i2) := Option.some.inj ei2
  obtain ⟨i3, ei3⟩ := is_v u3
  obtain rfl : w3 = (.int i3) := Option.some.inj ei3
  obtain ⟨n, o, h1, h2, h3, _, L, rfl, ⟨rfl, N⟩, hq⟩ := rm0 l s _ hw tables_1 i0 i1 i2 i3 s.heap s.heap.size (Nat.le_refl _) p e ha hc hk s m _ below hf ((Spec.applies_iff_loose hf).mp happ).1 ⟨rfl, State.Warmed39.refl s, rfl⟩ trivial
  refine ⟨n, _, h1, h2, h3, hpost _ _ _ _ _ _ ⟨Cond.after_iff.mpr rfl, Cond.after_iff.mpr (eq_i res_at (Term.int_eval (1)) rfl), trivial⟩ ⟨hq.1, hq.2.1, (hq.2.2.sift fun y hy => Or.inr (N y hy)).mono (by decide) (by decide)⟩⟩
theorem main_1_1 : Claimed_1_1 := comes_1 fun _ _ _ _ _ _ h hF => ⟨h.1, hF⟩
theorem main_1_2 : Claimed_1_2 := comes_1 fun _ _ _ _ _ _ h hF => ⟨h.2.1, hF⟩
end Jvm.Pilot.@@N@@
namespace Jvm.Pilot.@@N@@
open Jvm Jvm.ClassFile Sem Op Lib Jvm.Free Jvm.Stand Jvm.Pilot.@@N@@.Jvm.D
/-! MADE BY PROGRAM (witnessworld.py) out of the Statement's table words and the real class files: 10 classes; the members and pool entries that the words name. The judged class is class 1, her method 1. -/
namespace start1
open Jvm.ClassFile
def u (s : String) : CpInfo := .utf8 (stringToUtf16 s)
/-- a pool by its gaps: so many unusable entries, then the entry; so many at the end -/
def gap : Nat → List CpInfo → List CpInfo
  | 0, r => r
  | n + 1, r => .unusable :: gap n r
def poolList (es : List (Nat × CpInfo)) (last : Nat) : List CpInfo := es.foldr (fun e r => gap e.1 (e.2 :: r)) (gap last [])
def pool (es : List (Nat × CpInfo)) (last : Nat) : Array CpInfo := ⟨poolList es last⟩
def fileOf (pool : Array CpInfo) (this : Nat) (attrs : Array Attribute := #[]) (ms : Array MethodInfo := #[]) (fl : Nat := 33) (sup : Nat := 0) (ifs : Array Nat := #[]) (fds : Array FieldInfo := #[]) : ClassFile where
  minorVersion := 0
  majorVersion := 65
  constantPool := pool
  accessFlags := fl
  thisClass := this
  superClass := sup
  interfaces := ifs
  fields := fds
  methods := ms
  attributes := attrs
def plain (name : String) (sup : Option ClassId) : Class where
  name := name
  kind := .ordinary
  loader := none
  accessFlags := 33
  super := sup
  interfaces := #[]
  cf := none
  fields := #[]
  methods := #[]
  instanceTypes := #[]
  staticTypes := #[]
  resolved := #[]
  callSites := []
  init := .initialized
  statics := none
  mirror := none

def pool0 : Array CpInfo := pool [(5, u "<init>"), (0, u "()V"), (1, .class_ 10), (1, u "java/lang/Object")] 113

def k0c0 : Code := { maxStack := 0, maxLocals := 1, code := object_method_1_code, exceptionTable := #[], attributes := #[] }
def k0m0 : Method := { name := "<init>", desc := "()V", sig := { parameters := [], returnType := none }, accessFlags := 1, code := some k0c0 }
/-- java/lang/Object -/
def k0 : Class := { plain "java/lang/Object" none with
  accessFlags := 33
  interfaces := #[]
  cf := some (fileOf pool0 8 #[] #[{ accessFlags := 1, nameIndex := 5, descriptorIndex := 6, attributes := #[] }] 33 0 #[] #[])
  fields := #[]
  methods := #[k0m0]
  instanceTypes := #[]
  staticTypes := #[]
  resolved := Array.replicate 124 none
  statics := none }

def pool1 : Array CpInfo := pool [(2, .class_ 4), (1, u "java/lang/Object"), (0, u "<init>"), (0, u "()V"), (0, .integer 2147483647), (0, .class_ 9), (0, u "com/example/wardsum/wardsum/model/Cell"), (0, .methodref 8 11), (0, .nameAndType 5 12), (0, u "(II)V"), (0, .methodref 8 14), (0, .nameAndType 15 16), (0, u "squaredDistanceTo"), (0, u "(Lcom/example/wardsum/wardsum/model/Cell;)J"), (0, .long 2), (1, .class_ 20), (0, u "com/example/wardsum/wardsum/model/CellSquaredDistanceToPinLaw"), (2, u "law"), (0, u "(IIII)Z")] 3

def k1m0 : Method := { name := "<init>", desc := "()V", sig := { parameters := [], returnType := none }, accessFlags := 2, code := none }
def k1c1 : Code := { maxStack := 6, maxLocals := 24, code := code, exceptionTable := #[], attributes := #[] }
def k1m1 : Method := { name := "law", desc := "(IIII)Z", sig := { parameters := [.int, .int, .int, .int], returnType := some .boolean }, accessFlags := 9, code := some k1c1 }
/-- com/example/wardsum/wardsum/model/CellSquaredDistanceToPinLaw -/
def k1 : Class := { plain "com/example/wardsum/wardsum/model/CellSquaredDistanceToPinLaw" (some 0) with
  accessFlags := 49
  interfaces := #[]
  cf := some (fileOf pool1 19 #[] #[{ accessFlags := 2, nameIndex := 5, descriptorIndex := 6, attributes := #[] }, { accessFlags := 9, nameIndex := 23, descriptorIndex := 24, attributes := #[] }] 49 2 #[] #[])
  fields := #[]
  methods := #[k1m0, k1m1]
  instanceTypes := #[]
  staticTypes := #[]
  resolved := Array.replicate 28 none
  statics := none }

def pool2 : Array CpInfo := pool [(1, .methodref 2 3), (0, .class_ 4), (0, .nameAndType 5 6), (0, u "java/lang/Object"), (0, u "<init>"), (0, u "()V"), (0, .class_ 8), (0, u "java/lang/Record")] 13

def k2c0 : Code := { maxStack := 1, maxLocals := 1, code := jdk_30_method_1_code, exceptionTable := #[], attributes := #[] }
def k2m0 : Method := { name := "<init>", desc := "()V", sig := { parameters := [], returnType := none }, accessFlags := 4, code := some k2c0 }
/-- java/lang/Record -/
def k2 : Class := { plain "java/lang/Record" (some 0) with
  accessFlags := 1057
  interfaces := #[]
  cf := some (fileOf pool2 7 #[] #[{ accessFlags := 4, nameIndex := 5, descriptorIndex := 6, attributes := #[] }] 1057 2 #[] #[])
  fields := #[]
  methods := #[k2m0]
  instanceTypes := #[]
  staticTypes := #[]
  resolved := Array.replicate 22 none
  statics := none }

def pool3 : Array CpInfo := pool [(1, .methodref 2 3), (0, .class_ 4), (0, .nameAndType 5 6), (0, u "java/lang/Record"), (0, u "<init>"), (0, u "()V"), (0, .fieldref 8 9), (0, .class_ 10), (0, .nameAndType 11 12), (0, u "com/example/wardsum/wardsum/model/Cell"), (0, u "x"), (0, u "I"), (0, .fieldref 8 14), (0, .nameAndType 15 12), (0, u "y"), (12, u "(II)V"), (3, u "squaredDistanceTo"), (0, u "(Lcom/example/wardsum/wardsum/model/Cell;)J")] 33

def k3c0 : Code := { maxStack := 2, maxLocals := 3, code := prog_42_method_1_code, exceptionTable := #[], attributes := #[] }
def k3m0 : Method := { name := "<init>", desc := "(II)V", sig := { parameters := [.int, .int], returnType := none }, accessFlags := 1, code := some k3c0 }
def k3c1 : Code := { maxStack := 6, maxLocals := 6, code := prog_42_method_2_code, exceptionTable := #[], attributes := #[] }
def k3m1 : Method := { name := "squaredDistanceTo", desc := "(Lcom/example/wardsum/wardsum/model/Cell;)J", sig := { parameters := [(.object "com/example/wardsum/wardsum/model/Cell")], returnType := some .long }, accessFlags := 1, code := some k3c1 }
/-- com/example/wardsum/wardsum/model/Cell -/
def k3 : Class := { plain "com/example/wardsum/wardsum/model/Cell" (some 2) with
  accessFlags := 49
  interfaces := #[]
  cf := some (fileOf pool3 8 #[] #[{ accessFlags := 1, nameIndex := 5, descriptorIndex := 28, attributes := #[] }, { accessFlags := 1, nameIndex := 32, descriptorIndex := 33, attributes := #[] }] 49 2 #[] #[{ accessFlags := 18, nameIndex := 11, descriptorIndex := 12, attributes := #[] }, { accessFlags := 18, nameIndex := 15, descriptorIndex := 12, attributes := #[] }])
  fields := #[{ name := "x", type := .int, accessFlags := 18, slot := 0, constantValue := 0 }, { name := "y", type := .int, accessFlags := 18, slot := 1, constantValue := 0 }]
  methods := #[k3m0, k3m1]
  instanceTypes := #[.int, .int]
  staticTypes := #[]
  resolved := Array.replicate 67 none
  statics := none }

def pool4 : Array CpInfo := pool [(1, u "java/lang/Cloneable"), (0, .class_ 1), (0, u "java/lang/Object"), (0, .class_ 3)] 3

/-- java/lang/Cloneable -/
def k4 : Class := { plain "java/lang/Cloneable" (some 0) with
  accessFlags := 1537
  interfaces := #[]
  cf := some (fileOf pool4 2 #[] #[] 1537 4 #[] #[])
  fields := #[]
  methods := #[]
  instanceTypes := #[]
  staticTypes := #[]
  resolved := Array.replicate 8 none
  statics := none }

def pool5 : Array CpInfo := pool [(1, u "java/io/Serializable"), (0, .class_ 1), (0, u "java/lang/Object"), (0, .class_ 3)] 3

/-- java/io/Serializable -/
def k5 : Class := { plain "java/io/Serializable" (some 0) with
  accessFlags := 1537
  interfaces := #[]
  cf := some (fileOf pool5 2 #[] #[] 1537 4 #[] #[])
  fields := #[]
  methods := #[]
  instanceTypes := #[]
  staticTypes := #[]
  resolved := Array.replicate 8 none
  statics := none }

/-- the primitive byte -/
def k6 : Class := { plain "byte" none with kind := .primitive 'B', accessFlags := 0x411 }
/-- [B -/
def k7 : Class := { plain "[B" (some 0) with kind := .array 6 .byte, interfaces := #[4, 5], accessFlags := 1041 }

/-- the primitive int -/
def k8 : Class := { plain "int" none with kind := .primitive 'I', accessFlags := 0x411 }
/-- [I -/
def k9 : Class := { plain "[I" (some 0) with kind := .array 8 .int, interfaces := #[4, 5], accessFlags := 1041 }

def heap : Heap := #[]
def classes : Array Class := #[k0, k1, k2, k3, k4, k5, k6, k7, k8, k9]
def interned : List (Array UInt16 × Addr) := []
def slotsUsed : Nat := 0
def theMethod : MethodId := ⟨1, 1⟩
def args0 : Array Value := #[.int 5, .int 7, .int 9, .int 2]
def aboutOver (below : List Frame) : State where
  vm := { classes := classes, interned := interned.toArray }
  heap := heap
  slotsUsed := slotsUsed
  threads := #[{ frames := .invoking theMethod args0 :: below }]
def below0 : List Frame := [.native { method := ⟨0, 0⟩, args := #[] }]
def about1 : State := aboutOver below0
def p0 : Program := .bare "" "" ""
def e0 : Env := launch0.env 0 0 0
theorem w_frames : about1.frames = Frame.invoking theMethod args0 :: below0 := rfl
set_option maxRecDepth 65536 in
theorem w_args : argsFit about1.vm theMethod args0 = true := by decide +kernel
set_option maxRecDepth 65536 in
theorem w_heap : heapFits about1 = true := by decide +kernel
set_option maxRecDepth 65536 in
theorem w_runnable : about1.curStatus? = some .runnable := by decide +kernel
set_option maxRecDepth 65536 in
theorem w_alone : about1.alone = true := by decide +kernel
set_option maxRecDepth 65536 in
theorem w_named : about1.methodNamed? x = some theMethod := by decide +kernel
set_option maxRecDepth 65536 in
theorem w_hears : about1.hears theMethod below0 = true := by decide +kernel
set_option maxRecDepth 65536 in
theorem w_ripe : about1.ripe theMethod args0 below0 = true := by decide +kernel
theorem w_running : about1.status = .running := rfl
set_option maxRecDepth 65536 in
theorem w_room : about1.hasRoom e0.platform room_1 = true :=
  launch0.hasRoom_least _ room_1 (by decide +kernel) (by decide +kernel) (by decide +kernel) (by decide +kernel) (by decide +kernel) (by decide +kernel)
theorem allAtoms_all (ts : List Jvm.Cond) (a : Array Jvm.Value) (st : Jvm.State) : (allAtoms ts).before a st = ts.all (fun c => c.before a st) := by
  induction ts with
  | nil => rfl
  | cons c t ih =>
    show (Jvm.Cond.and c (allAtoms t)).before a st = _
    rw [Jvm.Cond.before_and, ih, List.all_cons]
def words1 : List Jvm.Cond := Jvm.Cond.code x code maxLocals ret :: tables_1
/-- a 'code' word, met by the world's own term for the bytes: nothing is compared byte by byte -/
theorem code_word {y : MethodName} {bytes : ByteArray} {mx : Nat} {rt : Option FieldType} {a : Array Value} {s : State} {m : MethodId} {meth : Method} {c : Code} (h1 : s.methodNamed? y = some m) (h2 : s.vm.method? m = some meth) (h3 : meth.code = some c) (h4 : c.code = bytes)
    (h5 : (c.maxLocals == mx && c.exceptionTable.isEmpty && decide (c.maxStack ≤ mostOperands) && decide (meth.sig.returnType = rt) && !meth.locks && decide (parseMethodDescriptor y.desc = some meth.sig)) = true) : (Jvm.Cond.code y bytes mx rt).before a s = true := by
  simp only [Bool.and_eq_true, beq_iff_eq, Bool.not_eq_true', decide_eq_true_eq] at h5
  obtain ⟨⟨⟨⟨⟨g1, g2⟩, g3⟩, g4⟩, g5⟩, g6⟩ := h5
  simp [Cond.before, Cond.holds, Cond.value, h1, h2, h3, h4, g1, g2, g3, g4, g5, g6]
def isCode : Jvm.Cond → Bool
  | .code _ _ _ _ => true
  | _ => false
theorem all_split {L : List Jvm.Cond} {P : Jvm.Cond → Bool} (h1 : L.all (fun c => isCode c || P c) = true) (h2 : ∀ c ∈ L.filter isCode, P c = true) : L.all P = true := by
  refine List.all_eq_true.mpr fun c hc => ?_
  have h := List.all_eq_true.mp h1 c hc
  rcases Bool.eq_false_or_eq_true (isCode c) with hi | hi
  · exact h2 c (List.mem_filter.mpr ⟨hc, hi⟩)
  · simpa [hi] using h
set_option maxRecDepth 65536 in
theorem w_c0 : (Jvm.Cond.code x code maxLocals ret).before args0 about1 = true := code_word (m := ⟨1, 1⟩) (meth := k1m1) (c := k1c1) (by decide +kernel) rfl rfl rfl (by decide +kernel)
set_option maxRecDepth 65536 in
theorem w_c1 : (Jvm.Cond.code ({ cls := "com/example/wardsum/wardsum/model/Cell", name := "<init>", desc := "(II)V" } : Jvm.MethodName) prog_42_method_1_code (3 : Nat) (Option.none : Option Jvm.ClassFile.FieldType)).before args0 about1 = true := code_word (m := ⟨3, 0⟩) (meth := k3m0) (c := k3c0) (by decide +kernel) rfl rfl rfl (by decide +kernel)
set_option maxRecDepth 65536 in
theorem w_c2 : (Jvm.Cond.code ({ cls := "java/lang/Record", name := "<init>", desc := "()V" } : Jvm.MethodName) jdk_30_method_1_code (1 : Nat) (Option.none : Option Jvm.ClassFile.FieldType)).before args0 about1 = true := code_word (m := ⟨2, 0⟩) (meth := k2m0) (c := k2c0) (by decide +kernel) rfl rfl rfl (by decide +kernel)
set_option maxRecDepth 65536 in
theorem w_c3 : (Jvm.Cond.code ({ cls := "java/lang/Object", name := "<init>", desc := "()V" } : Jvm.MethodName) object_method_1_code (1 : Nat) (Option.none : Option Jvm.ClassFile.FieldType)).before args0 about1 = true := code_word (m := ⟨0, 0⟩) (meth := k0m0) (c := k0c0) (by decide +kernel) rfl rfl rfl (by decide +kernel)
set_option maxRecDepth 65536 in
theorem w_c4 : (Jvm.Cond.code ({ cls := "com/example/wardsum/wardsum/model/Cell", name := "squaredDistanceTo", desc := "(Lcom/example/wardsum/wardsum/model/Cell;)J" } : Jvm.MethodName) prog_42_method_2_code (6 : Nat) (Option.some Jvm.ClassFile.FieldType.long)).before args0 about1 = true := code_word (m := ⟨3, 1⟩) (meth := k3m1) (c := k3c1) (by decide +kernel) rfl rfl rfl (by decide +kernel)
def codes1 : List Jvm.Cond := [Jvm.Cond.code x code maxLocals ret, Jvm.Cond.code ({ cls := "com/example/wardsum/wardsum/model/Cell", name := "<init>", desc := "(II)V" } : Jvm.MethodName) prog_42_method_1_code (3 : Nat) (Option.none : Option Jvm.ClassFile.FieldType), Jvm.Cond.code ({ cls := "java/lang/Record", name := "<init>", desc := "()V" } : Jvm.MethodName) jdk_30_method_1_code (1 : Nat) (Option.none : Option Jvm.ClassFile.FieldType), Jvm.Cond.code ({ cls := "java/lang/Object", name := "<init>", desc := "()V" } : Jvm.MethodName) object_method_1_code (1 : Nat) (Option.none : Option Jvm.ClassFile.FieldType), Jvm.Cond.code ({ cls := "com/example/wardsum/wardsum/model/Cell", name := "squaredDistanceTo", desc := "(Lcom/example/wardsum/wardsum/model/Cell;)J" } : Jvm.MethodName) prog_42_method_2_code (6 : Nat) (Option.some Jvm.ClassFile.FieldType.long)]
set_option maxRecDepth 65536 in
theorem codes_eq : words1.filter isCode = codes1 := rfl
theorem w_codes : ∀ c ∈ words1.filter isCode, c.before args0 about1 = true := by
  rw [codes_eq]
  intro c hc
  simp only [codes1, List.mem_cons, List.not_mem_nil, or_false] at hc
  rcases hc with rfl | rfl | rfl | rfl | rfl
  · exact w_c0
  · exact w_c1
  · exact w_c2
  · exact w_c3
  · exact w_c4
set_option maxRecDepth 65536 in
theorem w_t1 : (words1.take 24).all (fun c => isCode c || c.before args0 about1) = true := by decide +kernel
set_option maxRecDepth 65536 in
theorem w_t2 : (words1.drop 24).all (fun c => isCode c || c.before args0 about1) = true := by decide +kernel
theorem w_tables : (allAtoms (Jvm.Cond.code x code maxLocals ret :: tables_1)).before args0 about1 = true := by
  rw [allAtoms_all]
  show words1.all (fun c => c.before args0 about1) = true
  refine all_split ?_ w_codes
  rw [← List.take_append_drop 24 words1, List.all_append, w_t1, w_t2]
  rfl
set_option maxRecDepth 65536 in
theorem w_case : (Jvm.Cond.and given_1 narrow_1).before args0 about1 = true := by decide +kernel
theorem w_applies : (headSpec (Jvm.Cond.code x code maxLocals ret :: tables_1) room_1).applies x e0.platform about1 = true :=
  (Spec.applies_iff w_frames).mpr ⟨w_running, w_runnable, w_alone, w_named, w_hears, w_ripe, w_room, w_tables⟩
theorem atStart : AtStart classFile x code maxLocals ret World_1 tables_1 room_1 Calls_1 rest_1 Pre_1 launch0 p0 e0 about1 theMethod args0 below0 :=
  ⟨lists_1, trivial, launch0.admits_env _ _ _, launch0.least_env, fairChoices_fair.cas, fairChoices_fair.clock, w_frames, w_args, w_heap, w_applies, trivial, trivial, w_case⟩
end start1
theorem witness_1 : WitnessClaimed_1 := ⟨start1.p0, start1.e0, start1.about1, start1.theMethod, start1.args0, start1.below0, start1.atStart⟩
end Jvm.Pilot.@@N@@
