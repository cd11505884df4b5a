import JvmDerived
import JvmDerived.Pilot.@@N@@Statement
import JvmDerived.Pilot.@@N@@Code
set_option linter.unusedVariables false
set_option linter.unusedSimpArgs false
namespace Jvm.RoadKit
open Sem ClassFile Op Lib Jvm.Stand Jvm.Free Jvm.LawKit
section New
variable {p : Program} {l : Launch} {e : Env} {R : Room} {s : State} {m : MethodId} {args : Array Value} {below : List Frame} {meth : Method} {c : Code} {T : State} {locs : List Loc} {cells slots : Nat}
theorem retI (X : Stand p l e R s m args below meth c T locs cells slots) (hx : p.tables.exec = Jvm.exec) {pc : Nat} {Ls : Array Slot} {z : Int32} {rest : List Value} (hret : meth.sig.returnType = some .int) (hd : decode c.code pc = .ok (.ireturn, 1)) {fs : List Frame}
    (hl : ∀ (f : JFrame) (acts : List Action), f.method = m → f.locked = none → f.entered = [] → (doReturn e (T.setTop f) acts (some (.int z))).1 = T.setFrames fs) : Steps p.tables e below (T.setTop (mkF m pc Ls (.int z :: rest))) (T.setFrames fs) := by
  have hm' : T.vm.method? m = some meth := X.method'
  have hn : narrow .int (.int z) = .int z := rfl
  show Steps p.tables e below (T.setTop { method := m, pc := pc, locals := Ls, stack := _ :: rest, locked := none }) _
  jvm_step X.here [X.here.top, hx, hd, hm', hret, hn]
  first | (intro acts; rw [hl _ acts rfl rfl rfl]) | rw [hl _ _ rfl rfl rfl]
  exact Steps.refl _
end New
end Jvm.RoadKit
namespace Jvm.Pilot.@@N@@
set_option maxRecDepth 65536
set_option maxHeartbeats 40000000
open Jvm Jvm.ClassFile Sem Op Lib Jvm.Free Jvm.Stand Jvm.LawKit Jvm.RoadKit Bundle Jvm.Pilot.@@N@@.Jvm.D
section OwnKit
/-- the rest of a body ends well: from the state U on it comes to its end, what it returns and leaves is as Q says -/
def Done (p : Program) (e : Env) (below : List Frame) (s : State) (Q : Option Value → Heap → List Loc → Prop) (C S : Nat) (U : State) : Prop :=
  ∃ s₂ o, Steps p.tables e below U s₂ ∧ s₂.status = .running ∧ Ended s₂ below o ∧ ∃ v L, o = .returned v ∧ Q v s₂.heap L ∧ FrameEnd s o s₂ L C S
variable {p : Program} {l : Launch} {e : Env} {R : Room} {s : State} {m : MethodId} {args : Array Value} {below : List Frame} {meth : Method} {c : Code} {T U U' : State} {locs : List Loc} {cells slots C S : Nat} {Q : Option Value → Heap → List Loc → Prop}
theorem Done.step (h : ∀ t, Steps p.tables e below U' t → Steps p.tables e below U t) (d : Done p e below s Q C S U') : Done p e below s Q C S U := by
  obtain ⟨s₂, o, h1, r⟩ := d
  exact ⟨s₂, o, h _ h1, r⟩
theorem Done.far (h : Steps p.tables e below U U') (d : Done p e below s Q C S U') : Done p e below s Q C S U := by
  obtain ⟨s₂, o, h1, r⟩ := d
  exact ⟨s₂, o, h.trans h1, r⟩
theorem Done.mono {Q' : Option Value → Heap → List Loc → Prop} (d : Done p e below s Q C S U) (h : ∀ v h L, Q v h L → Q' v h L) : Done p e below s Q' C S U := by
  obtain ⟨s₂, o, h1, h2, h3, v, L, h4, h5, h6⟩ := d
  exact ⟨s₂, o, h1, h2, h3, v, L, h4, h _ _ _ h5, h6⟩
theorem Done.int (X : Stand p l e R s m args below meth c T locs cells slots) (hx : p.tables.exec = Jvm.exec) (hlk : meth.locks = false) (hret : meth.sig.returnType = some .int) {pc : Nat} {Ls : Array Slot} {z : Int32} {rest : List Value} (hd : decode c.code pc = .ok (.ireturn, 1)) (hc : cells ≤ C) (hs : slots ≤ S)
    (hq : Q (some (.int z)) T.heap locs) : Done p e below s Q C S (T.setTop (mkF m pc Ls (.int z :: rest))) := by
  obtain ⟨fs, hr, hrun, hended, hW, hsame⟩ := X.leave (v := some (.int z)) (fun h => by rw [hret] at h; cases h)
  exact ⟨_, _, retI X hx hret hd hr, hrun, hended, _, _, rfl, hq, ⟨_, rfl⟩, hW, hsame.mono hc hs⟩
theorem Done.narr (X : Stand p l e R s m args below meth c T locs cells slots) (hx : p.tables.exec = Jvm.exec) (hlk : meth.locks = false) {t : FieldType} (hret : meth.sig.returnType = some t) (ht : t = .boolean ∨ t = .byte ∨ t = .char ∨ t = .short) {pc : Nat} {Ls : Array Slot} {z : Int32} {rest : List Value} (hd : decode c.code pc = .ok (.ireturn, 1)) (hc : cells ≤ C) (hs : slots ≤ S)
    (hq : Q (some (.int (nar t z))) T.heap locs) : Done p e below s Q C S (T.setTop (mkF m pc Ls (.int z :: rest))) := by
  obtain ⟨fs, hr, hrun, hended, hW, hsame⟩ := X.leave (v := some (.int (nar t z))) (fun h => by rw [hret] at h; cases h)
  exact ⟨_, _, retN X hx hret ht hd hr, hrun, hended, _, _, rfl, hq, ⟨_, rfl⟩, hW, hsame.mono hc hs⟩
theorem Done.long (X : Stand p l e R s m args below meth c T locs cells slots) (hx : p.tables.exec = Jvm.exec) (hlk : meth.locks = false) (hret : meth.sig.returnType = some .long) {pc : Nat} {Ls : Array Slot} {z : Int64} {rest : List Value} (hd : decode c.code pc = .ok (.lreturn, 1)) (hc : cells ≤ C) (hs : slots ≤ S)
    (hq : Q (some (.long z)) T.heap locs) : Done p e below s Q C S (T.setTop (mkF m pc Ls (.long z :: rest))) := by
  obtain ⟨fs, hr, hrun, hended, hW, hsame⟩ := X.leave (v := some (.long z)) (fun h => by rw [hret] at h; cases h)
  exact ⟨_, _, retOut X hx hret rfl (Or.inr (Or.inl ⟨rfl, rfl, z, rfl⟩)) hd hr, hrun, hended, _, _, rfl, hq, ⟨_, rfl⟩, hW, hsame.mono hc hs⟩
theorem Done.ref (X : Stand p l e R s m args below meth c T locs cells slots) (hx : p.tables.exec = Jvm.exec) (hlk : meth.locks = false) {t : FieldType} (hret : meth.sig.returnType = some t) (ht : t.isReference = true) {pc : Nat} {Ls : Array Slot} {w : Value} {rest : List Value} (hw : w.isRef = true) (hn : narrow t w = w) (hd : decode c.code pc = .ok (.areturn, 1)) (hc : cells ≤ C) (hs : slots ≤ S)
    (hq : Q (some w) T.heap locs) : Done p e below s Q C S (T.setTop (mkF m pc Ls (w :: rest))) := by
  obtain ⟨fs, hr, hrun, hended, hW, hsame⟩ := X.leave (v := some w) (fun h => by rw [hret] at h; cases h)
  exact ⟨_, _, retOut X hx hret hn (Or.inr (Or.inr (Or.inr (Or.inr ⟨rfl, ht, hw⟩)))) hd hr, hrun, hended, _, _, rfl, hq, ⟨_, rfl⟩, hW, hsame.mono hc hs⟩
theorem Done.void (X : Stand p l e R s m args below meth c T locs cells slots) (hx : p.tables.exec = Jvm.exec) (hlk : meth.locks = false) (hret : meth.sig.returnType = none) {pc : Nat} {Ls : Array Slot} (hd : decode c.code pc = .ok (.return_, 1)) (hc : cells ≤ C) (hs : slots ≤ S)
    (hq : Q none T.heap locs) : Done p e below s Q C S (T.setTop (mkF m pc Ls [])) := by
  obtain ⟨fs, hr, hrun, hended, hW, hsame⟩ := X.leave (v := none) (fun _ => rfl)
  exact ⟨_, _, X.returnOut hx hret hd hr, hrun, hended, _, _, rfl, hq, ⟨_, rfl⟩, hW, hsame.mono hc hs⟩
variable {Z : State} {h h' h0 : Heap} {a b : Addr} {ty : FieldType} {vs : List Value} {sl : Nat} {v x : Value} {ws : List Addr} {j : Int32} {g : JFrame} {rest : List Value}
/-- an array whose slots are just the list vs -/
def Ax (Z : State) (h : Heap) (a : Addr) (ty : FieldType) (vs : List Value) : Prop := ∃ c : Cell, Arr Z h a c ty ∧ c.slots = vs.toArray
theorem Ax.lt (F : Ax Z h a ty vs) : a < h.size := by obtain ⟨c, A, -⟩ := F; exact A.lt
theorem Ax.ext (F : Ax Z h a ty vs) (E : Ext h h') : Ax Z h' a ty vs := by obtain ⟨c, A, r⟩ := F; exact ⟨c, A.ext E, r⟩
theorem Ax.other (F : Ax Z h b ty vs) (W : Wr h h' a sl v) (q : b ≠ a) : Ax Z h' b ty vs := by obtain ⟨c, A, r⟩ := F; exact ⟨c, A.other W q, r⟩
theorem Ax.keep (F : Ax Z h a ty vs) (K : Keep h h' ws) (q : a ∉ ws) : Ax Z h' a ty vs := by obtain ⟨c, A, r⟩ := F; exact ⟨c, ⟨K.2.1 a c A.1 q, A.2⟩, r⟩
theorem own_stakeep {C n d : String} (F : Sta Z h C n d v) (K : Keep h h' ws) (q : ∀ y ∈ ws, ∃ cell : Cell, h[y]? = some cell ∧ cell.vm.isStatics = false) : Sta Z h' C n d v := by
  obtain ⟨cf, i, k, f, st, cell, h1, h2, h3, h4, h5, h6, h7⟩ := F
  refine ⟨cf, i, k, f, st, cell, h1, h2, h3, h4, K.2.1 st cell h5 (fun z => ?_), h6, h7⟩
  obtain ⟨c', g1, g2⟩ := q st z
  cases h5.symm.trans g1; rw [g2] at h6; cases h6
theorem own_unst {C : String} (F : Exa Z h a C) : ∃ cell : Cell, h[a]? = some cell ∧ cell.vm.isStatics = false := by
  obtain ⟨cell, k, h1, -, -, h4, -⟩ := F; exact ⟨cell, h1, h4⟩
theorem fld_long {t : Term} {D n d : String} {k : Int64} {y : Addr} {av : Array Value} (hh : (Jvm.Cond.eq (Term.field t D n d) (Term.long k)).value av Z none Z [] = some true) (ht : t.eval av Z none [] Z = some (.ref y)) : Fld Z Z.heap y D n d (.long k) := by
  obtain ⟨u, w, e1, e2, k1, k2⟩ := cmp_v (Or.inl hh)
  have e3 : (Term.long k).eval av Z none [] Z = some (.long k) := rfl
  rw [e3] at e2; cases e2
  obtain ⟨z, rfl⟩ := k2
  have q := gotT (eq_L e1 e3) hh
  subst q
  rw [fld_at ht] at e1
  exact Fld.start e1
theorem fld_int {t : Term} {D n d : String} {k : Int32} {y : Addr} {av : Array Value} (hh : (Jvm.Cond.eq (Term.field t D n d) (Term.int k)).value av Z none Z [] = some true) (ht : t.eval av Z none [] Z = some (.ref y)) : Fld Z Z.heap y D n d (.int k) := by
  obtain ⟨u, w, e1, e2, k1, k2⟩ := cmp_v (Or.inl hh)
  have e3 : (Term.int k).eval av Z none [] Z = some (.int k) := rfl
  rw [e3] at e2; cases e2
  obtain ⟨z, rfl⟩ := k2
  have q : z = k := by simpa [Jvm.Cond.value, e1, e3] using hh
  subst q
  rw [fld_at ht] at e1
  exact Fld.start e1
theorem Ax.set (F : Ax Z h a ty vs) (W : Wr h h' a sl v) : Ax Z h' a ty (vs.set sl v) := by
  obtain ⟨c, A, r⟩ := F
  exact ⟨_, A.same W, by rw [show (c.setSlot sl v).slots = c.slots.setIfInBounds sl v from rfl, r, List.setIfInBounds_toArray]⟩
theorem Ax.new {k : ClassId} {n : Int32} {i : Nat} (A : Arr Z h a (newA k ty n) ty) (hi : n.toNatClampNeg = i) : Ax Z h a ty (List.replicate i (defaultValue ty)) :=
  ⟨_, A, by rw [show (newA k ty n).slots = Array.replicate n.toNatClampNeg (defaultValue ty) from rfl, hi, List.toArray_replicate]⟩
theorem Ax.size {c : Cell} (r : c.slots = vs.toArray) : c.slots.size = vs.length := by rw [r, List.size_toArray]
theorem Ax.inb {c : Cell} (r : c.slots = vs.toArray) (hj : ¬ j < 0) (hl : j.toNatClampNeg < vs.length) : ¬ (j < 0 ∨ c.slots.size ≤ j.toNatClampNeg) := fun q => q.elim hj fun u => by
  rw [Ax.size r] at u; exact absurd hl (Nat.not_lt.mpr u)
theorem Ax.get {c : Cell} (r : c.slots = vs.toArray) (hat : vs[j.toNatClampNeg]? = some x) : c.slots[j.toNatClampNeg]? = some x := by rw [r, List.getElem?_toArray]; exact hat
theorem Ax.lens (hat : vs[j.toNatClampNeg]? = some x) : j.toNatClampNeg < vs.length := (List.getElem?_eq_some_iff.mp hat).1
theorem ldI (X : Stand p l e R s m args below meth c T locs cells slots) (hx : p.tables.exec = Jvm.exec) (hZ : Z.Warmed39 s.vm) (eT : T.heap = h) (F : Ax Z h a .int vs) (hj : ¬ j < 0) (hat : vs[j.toNatClampNeg]? = some x) (hg : g.method = m) (hs : g.stack = .int j :: .ref a :: rest) (hd : decode c.code g.pc = .ok (.iaload, 1)) :
    ∀ target, Steps p.tables e below (T.setTop { g with pc := g.pc + 1, stack := x :: rest }) target → Steps p.tables e below (T.setTop g) target := by
  obtain ⟨cl, A, r⟩ := F
  exact X.iaload hx (by rw [eT]; exact A.1) (State.isArrayOf_alike hZ.alike A.2.1) A.2.2 (Ax.inb r hj (Ax.lens hat)) (Ax.get r hat) hg hs hd
theorem ldJ (X : Stand p l e R s m args below meth c T locs cells slots) (hx : p.tables.exec = Jvm.exec) (hZ : Z.Warmed39 s.vm) (eT : T.heap = h) (F : Ax Z h a .long vs) (hj : ¬ j < 0) (hat : vs[j.toNatClampNeg]? = some x) (hg : g.method = m) (hs : g.stack = .int j :: .ref a :: rest) (hd : decode c.code g.pc = .ok (.laload, 1)) :
    ∀ target, Steps p.tables e below (T.setTop { g with pc := g.pc + 1, stack := x :: rest }) target → Steps p.tables e below (T.setTop g) target := by
  obtain ⟨cl, A, r⟩ := F
  exact X.laload hx (by rw [eT]; exact A.1) (State.isArrayOf_alike hZ.alike A.2.1) A.2.2 (Ax.inb r hj (Ax.lens hat)) (Ax.get r hat) hg hs hd
theorem ldB (X : Stand p l e R s m args below meth c T locs cells slots) (hx : p.tables.exec = Jvm.exec) (hZ : Z.Warmed39 s.vm) (eT : T.heap = h) (F : Ax Z h a .byte vs) (hj : ¬ j < 0) (hat : vs[j.toNatClampNeg]? = some x) (hg : g.method = m) (hs : g.stack = .int j :: .ref a :: rest) (hd : decode c.code g.pc = .ok (.baload, 1)) :
    ∀ target, Steps p.tables e below (T.setTop { g with pc := g.pc + 1, stack := x :: rest }) target → Steps p.tables e below (T.setTop g) target := by
  obtain ⟨cl, A, r⟩ := F
  exact X.baloadBytes hx (by rw [eT]; exact A.1) (State.isArrayOf_alike hZ.alike A.2.1) A.2.2 (Ax.inb r hj (Ax.lens hat)) (Ax.get r hat) hg hs hd
theorem ldZ (X : Stand p l e R s m args below meth c T locs cells slots) (hx : p.tables.exec = Jvm.exec) (hZ : Z.Warmed39 s.vm) (eT : T.heap = h) (F : Ax Z h a .boolean vs) (hj : ¬ j < 0) (hat : vs[j.toNatClampNeg]? = some x) (hg : g.method = m) (hs : g.stack = .int j :: .ref a :: rest) (hd : decode c.code g.pc = .ok (.baload, 1)) :
    ∀ target, Steps p.tables e below (T.setTop { g with pc := g.pc + 1, stack := x :: rest }) target → Steps p.tables e below (T.setTop g) target := by
  obtain ⟨cl, A, r⟩ := F
  exact X.baloadBooleans hx (by rw [eT]; exact A.1) (State.isArrayOf_alike hZ.alike A.2.1) A.2.2 (Ax.inb r hj (Ax.lens hat)) (Ax.get r hat) hg hs hd
theorem lenA (X : Stand p l e R s m args below meth c T locs cells slots) (hx : p.tables.exec = Jvm.exec) (hZ : Z.Warmed39 s.vm) (eT : T.heap = h) (F : Ax Z h a ty vs) {n : Int32} (hn : vs.length.toInt32 = n) (hg : g.method = m) (hs : g.stack = .ref a :: rest) (hd : decode c.code g.pc = .ok (.arraylength, 1)) :
    ∀ target, Steps p.tables e below (T.setTop { g with pc := g.pc + 1, stack := .int n :: rest }) target → Steps p.tables e below (T.setTop g) target := by
  obtain ⟨cl, A, r⟩ := F
  intro target k
  refine X.arraylength hx (by rw [eT]; exact A.1) (State.isArrayOf_alike hZ.alike A.2.1) hg hs hd target ?_
  rw [Ax.size r, hn]; exact k
theorem stoI (X : Stand p l e R s m args below meth c T locs cells slots) (hx : p.tables.exec = Jvm.exec) (hZ : Z.Warmed39 s.vm) (eT : T.heap = h) (F : Ax Z h a .int vs) {y : Int32} (hj : ¬ j < 0) {i : Nat} (hi : j.toNatClampNeg = i) (hl : i < vs.length) (hg : g.method = m) (hs : g.stack = .int y :: .int j :: .ref a :: rest) (hd : decode c.code g.pc = .ok (.iastore, 1)) :
    ∃ T' h', Stand p l e R s m args below meth c T' (locs ++ [⟨a, j.toNatClampNeg⟩]) cells slots ∧ T'.heap = h' ∧ Wr h h' a j.toNatClampNeg (.int y) ∧ Ax Z h' a .int (vs.set i (.int y)) ∧ ∀ target, Steps p.tables e below (T'.setTop { g with pc := g.pc + 1, stack := rest }) target → Steps p.tables e below (T.setTop g) target := by
  obtain ⟨cl, A, r⟩ := F
  obtain ⟨T', h', X', e', W, st⟩ := stI X hx hZ eT A (Ax.inb r hj (by rw [hi]; exact hl)) hg hs hd
  exact ⟨T', h', X', e', W, hi ▸ Ax.set ⟨cl, A, r⟩ W, st⟩
theorem stoJ (X : Stand p l e R s m args below meth c T locs cells slots) (hx : p.tables.exec = Jvm.exec) (hZ : Z.Warmed39 s.vm) (eT : T.heap = h) (F : Ax Z h a .long vs) {y : Int64} (hj : ¬ j < 0) {i : Nat} (hi : j.toNatClampNeg = i) (hl : i < vs.length) (hg : g.method = m) (hs : g.stack = .long y :: .int j :: .ref a :: rest) (hd : decode c.code g.pc = .ok (.lastore, 1)) :
    ∃ T' h', Stand p l e R s m args below meth c T' (locs ++ [⟨a, j.toNatClampNeg⟩]) cells slots ∧ T'.heap = h' ∧ Wr h h' a j.toNatClampNeg (.long y) ∧ Ax Z h' a .long (vs.set i (.long y)) ∧ ∀ target, Steps p.tables e below (T'.setTop { g with pc := g.pc + 1, stack := rest }) target → Steps p.tables e below (T.setTop g) target := by
  obtain ⟨cl, A, r⟩ := F
  obtain ⟨T', h', X', e', W, st⟩ := stJ X hx hZ eT A (Ax.inb r hj (by rw [hi]; exact hl)) hg hs hd
  exact ⟨T', h', X', e', W, hi ▸ Ax.set ⟨cl, A, r⟩ W, st⟩
theorem stoB (X : Stand p l e R s m args below meth c T locs cells slots) (hx : p.tables.exec = Jvm.exec) (hZ : Z.Warmed39 s.vm) (eT : T.heap = h) (F : Ax Z h a .byte vs) {y : Int32} (hj : ¬ j < 0) {i : Nat} (hi : j.toNatClampNeg = i) (hl : i < vs.length) (hg : g.method = m) (hs : g.stack = .int y :: .int j :: .ref a :: rest) (hd : decode c.code g.pc = .ok (.bastore, 1)) :
    ∃ T' h', Stand p l e R s m args below meth c T' (locs ++ [⟨a, j.toNatClampNeg⟩]) cells slots ∧ T'.heap = h' ∧ Wr h h' a j.toNatClampNeg (.int (nar .byte y)) ∧ Ax Z h' a .byte (vs.set i (.int (nar .byte y))) ∧ ∀ target, Steps p.tables e below (T'.setTop { g with pc := g.pc + 1, stack := rest }) target → Steps p.tables e below (T.setTop g) target := by
  obtain ⟨cl, A, r⟩ := F
  obtain ⟨T', h', X', e', W, st⟩ := stB X hx hZ eT A (Ax.inb r hj (by rw [hi]; exact hl)) hg hs hd
  exact ⟨T', h', X', e', W, hi ▸ Ax.set ⟨cl, A, r⟩ W, st⟩
theorem stoZ (X : Stand p l e R s m args below meth c T locs cells slots) (hx : p.tables.exec = Jvm.exec) (hZ : Z.Warmed39 s.vm) (eT : T.heap = h) (F : Ax Z h a .boolean vs) {y : Int32} (hj : ¬ j < 0) {i : Nat} (hi : j.toNatClampNeg = i) (hl : i < vs.length) (hg : g.method = m) (hs : g.stack = .int y :: .int j :: .ref a :: rest) (hd : decode c.code g.pc = .ok (.bastore, 1)) :
    ∃ T' h', Stand p l e R s m args below meth c T' (locs ++ [⟨a, j.toNatClampNeg⟩]) cells slots ∧ T'.heap = h' ∧ Wr h h' a j.toNatClampNeg (.int (nar .boolean y)) ∧ Ax Z h' a .boolean (vs.set i (.int (nar .boolean y))) ∧ ∀ target, Steps p.tables e below (T'.setTop { g with pc := g.pc + 1, stack := rest }) target → Steps p.tables e below (T.setTop g) target := by
  obtain ⟨cl, A, r⟩ := F
  obtain ⟨T', h', X', e', W, st⟩ := stZ X hx hZ eT A (Ax.inb r hj (by rw [hi]; exact hl)) hg hs hd
  exact ⟨T', h', X', e', W, hi ▸ Ax.set ⟨cl, A, r⟩ W, st⟩
theorem cloX (X : Stand p l e R s m args below meth c T locs cells slots) (hx : p.tables.exec = Jvm.exec) (hZ : Z.Warmed39 s.vm) {a0 : Array Value} {own ad : String} {index : Nat} (hown : s.vm.findClass own = some m.cls)
    (w1 : (Cond.methodLink own index ⟨ad, "clone", "()Ljava/lang/Object;"⟩).before a0 Z = true) (w2 : (Cond.sameMethod ad "java/lang/Object" "clone" "()Ljava/lang/Object;").before a0 Z = true) (w3 : (Cond.native ⟨"java/lang/Object", "clone", "()Ljava/lang/Object;"⟩).before a0 Z = true)
    (w4 : (Cond.instanceMethod ⟨"java/lang/Object", "clone", "()Ljava/lang/Object;"⟩).before a0 Z = true) (w5 : (Cond.selects ad ⟨ad, "clone", "()Ljava/lang/Object;"⟩ ⟨"java/lang/Object", "clone", "()Ljava/lang/Object;"⟩).before a0 Z = true) (w6 : (Cond.castable ad "java/lang/Cloneable").before a0 Z = true)
    (eT : T.heap = h) (F : Ax Z h a ty vs) (E : Exa Z h a ad) (G : ∀ v ∈ vs, fits ty v = true) (hg : g.method = m) (hsize : g.locals.size = c.maxLocals) (hs : g.stack = .ref a :: rest) (hd : decode c.code g.pc = .ok (.invokevirtual index, 3))
    (hf : 1 ≤ R.frames) {W cap : Nat} (hW : 2 * g.monitorRoom + (rest.map fun v => v.category).sum ≤ W) (hl : W + 14 ≤ R.locals) (hcap : vs.length ≤ cap) (hc : cells + 1 ≤ R.cells) (hsl : slots + cap ≤ R.slots) :
    ∃ T' h', Stand p l e R s m args below meth c T' locs (cells + 1) (slots + cap) ∧ T'.heap = h' ∧ Ext h h' ∧ Ax Z h' h.size ty vs ∧ Exa Z h' h.size ad ∧
      ∀ target, Steps p.tables e below (T'.setTop { g with pc := g.pc + 3, stack := .ref h.size :: rest }) target → Steps p.tables e below (T.setTop g) target := by
  obtain ⟨cl, A, r⟩ := F
  have FC : FitC Z cl := fitC_of A fun i hi v hv => by
    rw [r, List.getElem?_toArray] at hv
    exact G v (List.mem_of_getElem? hv)
  obtain ⟨T', h', X', e', ex, A', E', st⟩ := cloneA X hx hZ hown w1 w2 w3 w4 w5 w6 eT A E FC hg hsize hs hd hf hW hl (by rw [Ax.size r]; exact hcap) hc hsl
  exact ⟨T', h', X', e', ex, ⟨cloneOf cl, A', r⟩, E', st⟩
end OwnKit
theorem lq {a b c : Nat} (h : a ≤ b) (k : b ≤ c) : a ≤ c := Nat.le_trans h k
theorem dS {p : Program} {e : Env} {below : List Frame} {s U U' : State} {Q : Option Value → Heap → List Loc → Prop} {C S : Nat} (h : ∀ t, Steps p.tables e below U' t → Steps p.tables e below U t) (d : Done p e below s Q C S U') : Done p e below s Q C S U := Done.step h d
theorem kr (h : Heap) (ws : List Addr) : Keep h h ws := Keep.refl h ws
abbrev vi (x : Int32) : Slot := .val (.int x)
abbrev vj (x : Int64) : Slot := .val (.long x)
abbrev vr (x : Addr) : Slot := .val (.ref x)
abbrev vu : Slot := .unset
abbrev vz : Slot := .second
abbrev Aq {p : Program} {e : Env} {below : List Frame} {s : State} {Q : Option Value → Heap → List Loc → Prop} {C S : Nat} {m : MethodId} (T : State) (pc : Nat) (ls : Array Slot) (st : List Value) : Prop := Done p e below s Q C S (T.setTop (mkF m pc ls st))
abbrev dq (b : ByteArray) (pc : Nat) (i : Instr) (n : Nat) : Prop := decode b pc = .ok (i, n)
abbrev HH (a0 : Array Value) (Z : State) : Prop := ∀ d ∈ tables_1, d.before a0 Z = true
abbrev cd0 : ByteArray := jdk_33_method_48_code
abbrev cd1 : ByteArray := jdk_33_method_47_code
abbrev cd2 : ByteArray := jdk_2097_method_74_code
abbrev cd3 : ByteArray := jdk_29_method_59_code
abbrev cd4 : ByteArray := jdk_2101_method_74_code
abbrev cd5 : ByteArray := jdk_2101_method_18_code
abbrev cd6 : ByteArray := jdk_2101_method_41_code
abbrev cd7 : ByteArray := jdk_2101_method_42_code
abbrev cd8 : ByteArray := jdk_2101_method_1_code
abbrev cd9 : ByteArray := jdk_65_method_123_code
abbrev cd10 : ByteArray := jdk_2101_method_4_code
abbrev cd11 : ByteArray := jdk_2101_method_3_code
abbrev cd12 : ByteArray := jdk_2101_method_21_code
abbrev cd13 : ByteArray := jdk_2101_method_15_code
abbrev cd14 : ByteArray := jdk_2101_method_13_code
abbrev cd15 : ByteArray := jdk_2101_method_7_code
abbrev cd16 : ByteArray := jdk_18_method_1_code
abbrev cd17 : ByteArray := jdk_2097_method_25_code
abbrev cd18 : ByteArray := jdk_2101_method_9_code
abbrev cd19 : ByteArray := jdk_2101_method_35_code
abbrev cd20 : ByteArray := jdk_2101_method_50_code
abbrev cd21 : ByteArray := jdk_2101_method_73_code
abbrev cd22 : ByteArray := jdk_2101_method_72_code
abbrev cd23 : ByteArray := jdk_2097_method_79_code
abbrev cd24 : ByteArray := jdk_2097_method_73_code
abbrev cd25 : ByteArray := jdk_2101_method_53_code
abbrev cd26 : ByteArray := jdk_2101_method_57_code
abbrev cd27 : ByteArray := jdk_2097_method_30_code
abbrev cd28 : ByteArray := jdk_2097_method_29_code
abbrev cd29 : ByteArray := jdk_2097_method_62_code
abbrev cd30 : ByteArray := jdk_2097_method_61_code
abbrev cd31 : ByteArray := prog_30_method_1_code
abbrev cd32 : ByteArray := jdk_2097_method_81_code
abbrev cd33 : ByteArray := prog_30_method_5_code
abbrev cd34 : ByteArray := prog_30_method_3_code
abbrev cd35 : ByteArray := prog_30_method_2_code
abbrev cd36 : ByteArray := jdk_2097_method_124_code
abbrev cd37 : ByteArray := prog_30_method_16_code
abbrev cd38 : ByteArray := prog_20_method_2_code
abbrev cd39 : ByteArray := prog_20_method_3_code
abbrev cd40 : ByteArray := prog_27_method_1_code
abbrev cd41 : ByteArray := prog_27_method_3_code
abbrev cd42 : ByteArray := prog_27_method_7_code
abbrev cd43 : ByteArray := prog_27_method_8_code
abbrev cd44 : ByteArray := prog_27_method_5_code
abbrev cd45 : ByteArray := prog_20_method_1_code
theorem tqw {a0 : Array Value} {Z : State} (hw : HH a0 Z) (i : Nat) {d : Jvm.Cond} (q : tables_1[i]? = some d) : d.before a0 Z = true := hw _ (List.mem_of_getElem? q)
section TW
variable {a0 : Array Value} {Z : State} (hw : HH a0 Z)
def tw1 := tqw hw 1 rfl
def tw2 := tqw hw 2 rfl
def tw3 := tqw hw 3 rfl
def tw4 := tqw hw 4 rfl
def tw5 := tqw hw 5 rfl
def tw6 := tqw hw 6 rfl
def tw7 := tqw hw 7 rfl
def tw8 := tqw hw 8 rfl
def tw9 := tqw hw 9 rfl
def tw10 := tqw hw 10 rfl
def tw11 := tqw hw 11 rfl
def tw12 := tqw hw 12 rfl
def tw13 := tqw hw 13 rfl
def tw14 := tqw hw 14 rfl
def tw15 := tqw hw 15 rfl
def tw16 := tqw hw 16 rfl
def tw17 := tqw hw 17 rfl
def tw18 := tqw hw 18 rfl
def tw19 := tqw hw 19 rfl
def tw20 := tqw hw 20 rfl
def tw21 := tqw hw 21 rfl
def tw22 := tqw hw 22 rfl
def tw23 := tqw hw 23 rfl
def tw24 := tqw hw 24 rfl
def tw25 := tqw hw 25 rfl
def tw26 := tqw hw 26 rfl
def tw27 := tqw hw 27 rfl
def tw28 := tqw hw 28 rfl
def tw29 := tqw hw 29 rfl
def tw30 := tqw hw 30 rfl
def tw31 := tqw hw 31 rfl
def tw32 := tqw hw 32 rfl
def tw33 := tqw hw 33 rfl
def tw34 := tqw hw 34 rfl
def tw35 := tqw hw 35 rfl
def tw36 := tqw hw 36 rfl
def tw37 := tqw hw 37 rfl
def tw38 := tqw hw 38 rfl
def tw39 := tqw hw 39 rfl
def tw41 := tqw hw 41 rfl
def tw42 := tqw hw 42 rfl
def tw43 := tqw hw 43 rfl
def tw44 := tqw hw 44 rfl
def tw45 := tqw hw 45 rfl
def tw46 := tqw hw 46 rfl
def tw47 := tqw hw 47 rfl
def tw49 := tqw hw 49 rfl
def tw50 := tqw hw 50 rfl
def tw51 := tqw hw 51 rfl
def tw52 := tqw hw 52 rfl
def tw53 := tqw hw 53 rfl
def tw54 := tqw hw 54 rfl
def tw55 := tqw hw 55 rfl
def tw56 := tqw hw 56 rfl
def tw57 := tqw hw 57 rfl
def tw58 := tqw hw 58 rfl
def tw59 := tqw hw 59 rfl
def tw60 := tqw hw 60 rfl
def tw61 := tqw hw 61 rfl
def tw62 := tqw hw 62 rfl
def tw63 := tqw hw 63 rfl
def tw64 := tqw hw 64 rfl
def tw65 := tqw hw 65 rfl
def tw66 := tqw hw 66 rfl
def tw67 := tqw hw 67 rfl
def tw68 := tqw hw 68 rfl
def tw69 := tqw hw 69 rfl
def tw70 := tqw hw 70 rfl
def tw71 := tqw hw 71 rfl
def tw72 := tqw hw 72 rfl
def tw73 := tqw hw 73 rfl
def tw74 := tqw hw 74 rfl
def tw75 := tqw hw 75 rfl
def tw76 := tqw hw 76 rfl
def tw77 := tqw hw 77 rfl
def tw78 := tqw hw 78 rfl
def tw79 := tqw hw 79 rfl
def tw80 := tqw hw 80 rfl
def tw81 := tqw hw 81 rfl
def tw82 := tqw hw 82 rfl
def tw83 := tqw hw 83 rfl
def tw84 := tqw hw 84 rfl
def tw85 := tqw hw 85 rfl
def tw86 := tqw hw 86 rfl
def tw87 := tqw hw 87 rfl
def tw88 := tqw hw 88 rfl
def tw89 := tqw hw 89 rfl
def tw90 := tqw hw 90 rfl
def tw91 := tqw hw 91 rfl
def tw92 := tqw hw 92 rfl
def tw93 := tqw hw 93 rfl
def tw94 := tqw hw 94 rfl
def tw95 := tqw hw 95 rfl
def tw96 := tqw hw 96 rfl
def tw97 := tqw hw 97 rfl
def tw98 := tqw hw 98 rfl
def tw99 := tqw hw 99 rfl
def tw100 := tqw hw 100 rfl
def tw101 := tqw hw 101 rfl
def tw102 := tqw hw 102 rfl
def tw103 := tqw hw 103 rfl
def tw104 := tqw hw 104 rfl
def tw106 := tqw hw 106 rfl
def tw107 := tqw hw 107 rfl
def tw108 := tqw hw 108 rfl
def tw109 := tqw hw 109 rfl
def tw110 := tqw hw 110 rfl
def tw111 := tqw hw 111 rfl
def tw112 := tqw hw 112 rfl
def tw113 := tqw hw 113 rfl
def tw114 := tqw hw 114 rfl
def tw115 := tqw hw 115 rfl
def tw116 := tqw hw 116 rfl
def tw117 := tqw hw 117 rfl
def tw118 := tqw hw 118 rfl
def tw119 := tqw hw 119 rfl
def tw121 := tqw hw 121 rfl
def tw122 := tqw hw 122 rfl
def tw123 := tqw hw 123 rfl
def tw124 := tqw hw 124 rfl
def tw125 := tqw hw 125 rfl
def tw127 := tqw hw 127 rfl
def tw128 := tqw hw 128 rfl
def tw129 := tqw hw 129 rfl
def tw130 := tqw hw 130 rfl
def tw131 := tqw hw 131 rfl
def tw132 := tqw hw 132 rfl
def tw133 := tqw hw 133 rfl
def tw134 := tqw hw 134 rfl
def tw135 := tqw hw 135 rfl
def tw136 := tqw hw 136 rfl
def tw137 := tqw hw 137 rfl
def tw138 := tqw hw 138 rfl
def tw139 := tqw hw 139 rfl
def tw140 := tqw hw 140 rfl
def tw141 := tqw hw 141 rfl
def tw142 := tqw hw 142 rfl
def tw143 := tqw hw 143 rfl
def tw144 := tqw hw 144 rfl
def tw145 := tqw hw 145 rfl
def tw146 := tqw hw 146 rfl
def tw147 := tqw hw 147 rfl
def tw148 := tqw hw 148 rfl
def tw149 := tqw hw 149 rfl
def tw150 := tqw hw 150 rfl
def tw151 := tqw hw 151 rfl
def tw152 := tqw hw 152 rfl
def tw153 := tqw hw 153 rfl
def tw154 := tqw hw 154 rfl
def tw155 := tqw hw 155 rfl
def tw156 := tqw hw 156 rfl
def tw157 := tqw hw 157 rfl
def tw158 := tqw hw 158 rfl
def tw159 := tqw hw 159 rfl
def tw160 := tqw hw 160 rfl
def tw161 := tqw hw 161 rfl
def tw162 := tqw hw 162 rfl
def tw163 := tqw hw 163 rfl
def tw164 := tqw hw 164 rfl
def tw165 := tqw hw 165 rfl
def tw166 := tqw hw 166 rfl
def tw167 := tqw hw 167 rfl
def tw168 := tqw hw 168 rfl
def tw169 := tqw hw 169 rfl
def tw170 := tqw hw 170 rfl
def tw171 := tqw hw 171 rfl
def tw172 := tqw hw 172 rfl
def tw173 := tqw hw 173 rfl
def tw174 := tqw hw 174 rfl
def tw175 := tqw hw 175 rfl
def tw176 := tqw hw 176 rfl
def tw177 := tqw hw 177 rfl
def tw178 := tqw hw 178 rfl
def tw179 := tqw hw 179 rfl
def tw180 := tqw hw 180 rfl
def tw181 := tqw hw 181 rfl
def tw182 := tqw hw 182 rfl
def tw183 := tqw hw 183 rfl
def tw184 := tqw hw 184 rfl
def tw185 := tqw hw 185 rfl
def tw186 := tqw hw 186 rfl
def tw187 := tqw hw 187 rfl
def tw188 := tqw hw 188 rfl
def tw189 := tqw hw 189 rfl
def tw191 := tqw hw 191 rfl
def tw192 := tqw hw 192 rfl
def tw193 := tqw hw 193 rfl
def tw196 := tqw hw 196 rfl
def tw197 := tqw hw 197 rfl
def tw198 := tqw hw 198 rfl
def tw199 := tqw hw 199 rfl
def tw200 := tqw hw 200 rfl
def tw201 := tqw hw 201 rfl
def tw202 := tqw hw 202 rfl
def tw203 := tqw hw 203 rfl
def tw204 := tqw hw 204 rfl
def tw205 := tqw hw 205 rfl
def tw206 := tqw hw 206 rfl
def tw207 := tqw hw 207 rfl
def tw208 := tqw hw 208 rfl
def tw209 := tqw hw 209 rfl
def tw210 := tqw hw 210 rfl
def tw211 := tqw hw 211 rfl
def tw212 := tqw hw 212 rfl
def tw213 := tqw hw 213 rfl
def tw214 := tqw hw 214 rfl
def tw215 := tqw hw 215 rfl
def tw216 := tqw hw 216 rfl
def tw217 := tqw hw 217 rfl
def tw218 := tqw hw 218 rfl
def tw219 := tqw hw 219 rfl
def tw220 := tqw hw 220 rfl
def tw221 := tqw hw 221 rfl
def tw222 := tqw hw 222 rfl
def tw223 := tqw hw 223 rfl
def tw224 := tqw hw 224 rfl
def tw225 := tqw hw 225 rfl
def tw226 := tqw hw 226 rfl
def tw227 := tqw hw 227 rfl
def tw228 := tqw hw 228 rfl
def tw229 := tqw hw 229 rfl
def tw230 := tqw hw 230 rfl
def tw231 := tqw hw 231 rfl
def tw232 := tqw hw 232 rfl
def tw233 := tqw hw 233 rfl
def tw234 := tqw hw 234 rfl
def tw235 := tqw hw 235 rfl
def tw236 := tqw hw 236 rfl
def tw237 := tqw hw 237 rfl
def tw238 := tqw hw 238 rfl
def tw239 := tqw hw 239 rfl
def tw240 := tqw hw 240 rfl
def tw241 := tqw hw 241 rfl
def tw242 := tqw hw 242 rfl
def tw243 := tqw hw 243 rfl
def tw244 := tqw hw 244 rfl
def tw245 := tqw hw 245 rfl
def tw246 := tqw hw 246 rfl
def tw247 := tqw hw 247 rfl
def tw248 := tqw hw 248 rfl
def tw249 := tqw hw 249 rfl
def tw250 := tqw hw 250 rfl
def tw251 := tqw hw 251 rfl
def tw252 := tqw hw 252 rfl
def tw253 := tqw hw 253 rfl
def tw254 := tqw hw 254 rfl
def tw255 := tqw hw 255 rfl
def tw257 := tqw hw 257 rfl
def tw258 := tqw hw 258 rfl
def tw259 := tqw hw 259 rfl
def tw260 := tqw hw 260 rfl
def tw261 := tqw hw 261 rfl
def tw262 := tqw hw 262 rfl
def tw263 := tqw hw 263 rfl
def tw264 := tqw hw 264 rfl
def tw265 := tqw hw 265 rfl
def tw266 := tqw hw 266 rfl
def tw267 := tqw hw 267 rfl
def tw268 := tqw hw 268 rfl
def tw269 := tqw hw 269 rfl
def tw270 := tqw hw 270 rfl
def tw271 := tqw hw 271 rfl
def tw272 := tqw hw 272 rfl
def tw273 := tqw hw 273 rfl
def tw274 := tqw hw 274 rfl
def tw275 := tqw hw 275 rfl
def tw276 := tqw hw 276 rfl
def tw277 := tqw hw 277 rfl
def tw278 := tqw hw 278 rfl
def tw279 := tqw hw 279 rfl
def tw280 := tqw hw 280 rfl
def tw281 := tqw hw 281 rfl
def tw282 := tqw hw 282 rfl
def tw283 := tqw hw 283 rfl
def tw284 := tqw hw 284 rfl
def tw285 := tqw hw 285 rfl
def tw286 := tqw hw 286 rfl
def tw287 := tqw hw 287 rfl
def tw288 := tqw hw 288 rfl
def tw289 := tqw hw 289 rfl
def tw290 := tqw hw 290 rfl
def sq0 := slot_ne (Or.inl (tw128 hw)) (Or.inl (tw109 hw)) (by decide) (t := (.array .int)) (t' := .int) (by decide) (by decide)
def sq1 := slot_ne (Or.inl (tw113 hw)) (Or.inl (tw109 hw)) (by decide) (t := .int) (t' := .int) (by decide) (by decide)
def sq2 := slot_ne (Or.inl (tw113 hw)) (Or.inl (tw128 hw)) (by decide) (t := .int) (t' := (.array .int)) (by decide) (by decide)
def sq3 := slot_ne (Or.inl (tw109 hw)) (Or.inl (tw128 hw)) (by decide) (t := .int) (t' := (.array .int)) (by decide) (by decide)
def sq4 := slot_ne (Or.inl (tw128 hw)) (Or.inl (tw113 hw)) (by decide) (t := (.array .int)) (t' := .int) (by decide) (by decide)
def sq5 := slot_ne (Or.inl (tw109 hw)) (Or.inl (tw113 hw)) (by decide) (t := .int) (t' := .int) (by decide) (by decide)
def sq6 := slot_ne (Or.inr (tw111 hw)) (Or.inr (tw94 hw)) (by decide) (t := (.array .int)) (t' := .int) (by decide) (by decide)
def sq7 := slot_ne (Or.inr (tw94 hw)) (Or.inr (tw111 hw)) (by decide) (t := .int) (t' := (.array .int)) (by decide) (by decide)
def sq8 := slot_ne (Or.inr (tw246 hw)) (Or.inr (tw244 hw)) (by decide) (t := (.object "java/math/BigInteger")) (t' := (.object "java/math/BigInteger")) (by decide) (by decide)
def sq9 := slot_ne (Or.inr (tw244 hw)) (Or.inr (tw246 hw)) (by decide) (t := (.object "java/math/BigInteger")) (t' := (.object "java/math/BigInteger")) (by decide) (by decide)
def sq10 := slot_ne (Or.inr (tw34 hw)) (Or.inr (tw32 hw)) (by decide) (t := .long) (t' := .long) (by decide) (by decide)
def sq11 := slot_ne (Or.inr (tw42 hw)) (Or.inr (tw32 hw)) (by decide) (t := (.array .boolean)) (t' := .long) (by decide) (by decide)
def sq12 := slot_ne (Or.inr (tw50 hw)) (Or.inr (tw32 hw)) (by decide) (t := (.array .long)) (t' := .long) (by decide) (by decide)
def sq13 := slot_ne (Or.inr (tw52 hw)) (Or.inr (tw32 hw)) (by decide) (t := (.array .long)) (t' := .long) (by decide) (by decide)
def sq14 := slot_ne (Or.inl (tw59 hw)) (Or.inr (tw32 hw)) (by decide) (t := .long) (t' := .long) (by decide) (by decide)
def sq15 := slot_ne (Or.inr (tw32 hw)) (Or.inr (tw34 hw)) (by decide) (t := .long) (t' := .long) (by decide) (by decide)
def sq16 := slot_ne (Or.inr (tw42 hw)) (Or.inr (tw34 hw)) (by decide) (t := (.array .boolean)) (t' := .long) (by decide) (by decide)
def sq17 := slot_ne (Or.inr (tw50 hw)) (Or.inr (tw34 hw)) (by decide) (t := (.array .long)) (t' := .long) (by decide) (by decide)
def sq18 := slot_ne (Or.inr (tw52 hw)) (Or.inr (tw34 hw)) (by decide) (t := (.array .long)) (t' := .long) (by decide) (by decide)
def sq19 := slot_ne (Or.inl (tw59 hw)) (Or.inr (tw34 hw)) (by decide) (t := .long) (t' := .long) (by decide) (by decide)
def sq20 := slot_ne (Or.inr (tw32 hw)) (Or.inr (tw42 hw)) (by decide) (t := .long) (t' := (.array .boolean)) (by decide) (by decide)
def sq21 := slot_ne (Or.inr (tw34 hw)) (Or.inr (tw42 hw)) (by decide) (t := .long) (t' := (.array .boolean)) (by decide) (by decide)
def sq22 := slot_ne (Or.inr (tw50 hw)) (Or.inr (tw42 hw)) (by decide) (t := (.array .long)) (t' := (.array .boolean)) (by decide) (by decide)
def sq23 := slot_ne (Or.inr (tw52 hw)) (Or.inr (tw42 hw)) (by decide) (t := (.array .long)) (t' := (.array .boolean)) (by decide) (by decide)
def sq24 := slot_ne (Or.inl (tw59 hw)) (Or.inr (tw42 hw)) (by decide) (t := .long) (t' := (.array .boolean)) (by decide) (by decide)
def sq25 := slot_ne (Or.inr (tw32 hw)) (Or.inr (tw50 hw)) (by decide) (t := .long) (t' := (.array .long)) (by decide) (by decide)
def sq26 := slot_ne (Or.inr (tw34 hw)) (Or.inr (tw50 hw)) (by decide) (t := .long) (t' := (.array .long)) (by decide) (by decide)
def sq27 := slot_ne (Or.inr (tw42 hw)) (Or.inr (tw50 hw)) (by decide) (t := (.array .boolean)) (t' := (.array .long)) (by decide) (by decide)
def sq28 := slot_ne (Or.inr (tw52 hw)) (Or.inr (tw50 hw)) (by decide) (t := (.array .long)) (t' := (.array .long)) (by decide) (by decide)
def sq29 := slot_ne (Or.inl (tw59 hw)) (Or.inr (tw50 hw)) (by decide) (t := .long) (t' := (.array .long)) (by decide) (by decide)
def sq30 := slot_ne (Or.inr (tw32 hw)) (Or.inr (tw52 hw)) (by decide) (t := .long) (t' := (.array .long)) (by decide) (by decide)
def sq31 := slot_ne (Or.inr (tw34 hw)) (Or.inr (tw52 hw)) (by decide) (t := .long) (t' := (.array .long)) (by decide) (by decide)
def sq32 := slot_ne (Or.inr (tw42 hw)) (Or.inr (tw52 hw)) (by decide) (t := (.array .boolean)) (t' := (.array .long)) (by decide) (by decide)
def sq33 := slot_ne (Or.inr (tw50 hw)) (Or.inr (tw52 hw)) (by decide) (t := (.array .long)) (t' := (.array .long)) (by decide) (by decide)
def sq34 := slot_ne (Or.inl (tw59 hw)) (Or.inr (tw52 hw)) (by decide) (t := .long) (t' := (.array .long)) (by decide) (by decide)
def sq35 := slot_ne (Or.inr (tw50 hw)) (Or.inl (tw59 hw)) (by decide) (t := (.array .long)) (t' := .long) (by decide) (by decide)
def sq36 := slot_ne (Or.inr (tw52 hw)) (Or.inl (tw59 hw)) (by decide) (t := (.array .long)) (t' := .long) (by decide) (by decide)
def sq37 := slot_ne (Or.inr (tw32 hw)) (Or.inl (tw59 hw)) (by decide) (t := .long) (t' := .long) (by decide) (by decide)
def sq38 := slot_ne (Or.inr (tw34 hw)) (Or.inl (tw59 hw)) (by decide) (t := .long) (t' := .long) (by decide) (by decide)
def sq39 := slot_ne (Or.inr (tw11 hw)) (Or.inr (tw23 hw)) (by decide) (t := .int) (t' := (.array .int)) (by decide) (by decide)
def sq40 := slot_ne (Or.inr (tw13 hw)) (Or.inr (tw23 hw)) (by decide) (t := .int) (t' := (.array .int)) (by decide) (by decide)
def sq41 := slot_ne (Or.inr (tw15 hw)) (Or.inr (tw23 hw)) (by decide) (t := (.array .int)) (t' := (.array .int)) (by decide) (by decide)
def sq42 := slot_ne (Or.inr (tw17 hw)) (Or.inr (tw23 hw)) (by decide) (t := (.array .int)) (t' := (.array .int)) (by decide) (by decide)
def sq43 := slot_ne (Or.inr (tw19 hw)) (Or.inr (tw23 hw)) (by decide) (t := (.array .int)) (t' := (.array .int)) (by decide) (by decide)
def sq44 := slot_ne (Or.inr (tw21 hw)) (Or.inr (tw23 hw)) (by decide) (t := (.array .int)) (t' := (.array .int)) (by decide) (by decide)
def sq45 := slot_ne (Or.inr (tw13 hw)) (Or.inr (tw11 hw)) (by decide) (t := .int) (t' := .int) (by decide) (by decide)
def sq46 := slot_ne (Or.inr (tw15 hw)) (Or.inr (tw11 hw)) (by decide) (t := (.array .int)) (t' := .int) (by decide) (by decide)
def sq47 := slot_ne (Or.inr (tw17 hw)) (Or.inr (tw11 hw)) (by decide) (t := (.array .int)) (t' := .int) (by decide) (by decide)
def sq48 := slot_ne (Or.inr (tw19 hw)) (Or.inr (tw11 hw)) (by decide) (t := (.array .int)) (t' := .int) (by decide) (by decide)
def sq49 := slot_ne (Or.inr (tw21 hw)) (Or.inr (tw11 hw)) (by decide) (t := (.array .int)) (t' := .int) (by decide) (by decide)
def sq50 := slot_ne (Or.inr (tw23 hw)) (Or.inr (tw11 hw)) (by decide) (t := (.array .int)) (t' := .int) (by decide) (by decide)
def sq51 := slot_ne (Or.inr (tw11 hw)) (Or.inr (tw13 hw)) (by decide) (t := .int) (t' := .int) (by decide) (by decide)
def sq52 := slot_ne (Or.inr (tw15 hw)) (Or.inr (tw13 hw)) (by decide) (t := (.array .int)) (t' := .int) (by decide) (by decide)
def sq53 := slot_ne (Or.inr (tw17 hw)) (Or.inr (tw13 hw)) (by decide) (t := (.array .int)) (t' := .int) (by decide) (by decide)
def sq54 := slot_ne (Or.inr (tw19 hw)) (Or.inr (tw13 hw)) (by decide) (t := (.array .int)) (t' := .int) (by decide) (by decide)
def sq55 := slot_ne (Or.inr (tw21 hw)) (Or.inr (tw13 hw)) (by decide) (t := (.array .int)) (t' := .int) (by decide) (by decide)
def sq56 := slot_ne (Or.inr (tw23 hw)) (Or.inr (tw13 hw)) (by decide) (t := (.array .int)) (t' := .int) (by decide) (by decide)
def sq57 := slot_ne (Or.inr (tw11 hw)) (Or.inr (tw15 hw)) (by decide) (t := .int) (t' := (.array .int)) (by decide) (by decide)
def sq58 := slot_ne (Or.inr (tw13 hw)) (Or.inr (tw15 hw)) (by decide) (t := .int) (t' := (.array .int)) (by decide) (by decide)
def sq59 := slot_ne (Or.inr (tw17 hw)) (Or.inr (tw15 hw)) (by decide) (t := (.array .int)) (t' := (.array .int)) (by decide) (by decide)
def sq60 := slot_ne (Or.inr (tw19 hw)) (Or.inr (tw15 hw)) (by decide) (t := (.array .int)) (t' := (.array .int)) (by decide) (by decide)
def sq61 := slot_ne (Or.inr (tw21 hw)) (Or.inr (tw15 hw)) (by decide) (t := (.array .int)) (t' := (.array .int)) (by decide) (by decide)
def sq62 := slot_ne (Or.inr (tw23 hw)) (Or.inr (tw15 hw)) (by decide) (t := (.array .int)) (t' := (.array .int)) (by decide) (by decide)
def sq63 := slot_ne (Or.inr (tw11 hw)) (Or.inr (tw17 hw)) (by decide) (t := .int) (t' := (.array .int)) (by decide) (by decide)
def sq64 := slot_ne (Or.inr (tw13 hw)) (Or.inr (tw17 hw)) (by decide) (t := .int) (t' := (.array .int)) (by decide) (by decide)
def sq65 := slot_ne (Or.inr (tw15 hw)) (Or.inr (tw17 hw)) (by decide) (t := (.array .int)) (t' := (.array .int)) (by decide) (by decide)
def sq66 := slot_ne (Or.inr (tw19 hw)) (Or.inr (tw17 hw)) (by decide) (t := (.array .int)) (t' := (.array .int)) (by decide) (by decide)
def sq67 := slot_ne (Or.inr (tw21 hw)) (Or.inr (tw17 hw)) (by decide) (t := (.array .int)) (t' := (.array .int)) (by decide) (by decide)
def sq68 := slot_ne (Or.inr (tw23 hw)) (Or.inr (tw17 hw)) (by decide) (t := (.array .int)) (t' := (.array .int)) (by decide) (by decide)
def sq69 := slot_ne (Or.inr (tw11 hw)) (Or.inr (tw19 hw)) (by decide) (t := .int) (t' := (.array .int)) (by decide) (by decide)
def sq70 := slot_ne (Or.inr (tw13 hw)) (Or.inr (tw19 hw)) (by decide) (t := .int) (t' := (.array .int)) (by decide) (by decide)
def sq71 := slot_ne (Or.inr (tw15 hw)) (Or.inr (tw19 hw)) (by decide) (t := (.array .int)) (t' := (.array .int)) (by decide) (by decide)
def sq72 := slot_ne (Or.inr (tw17 hw)) (Or.inr (tw19 hw)) (by decide) (t := (.array .int)) (t' := (.array .int)) (by decide) (by decide)
def sq73 := slot_ne (Or.inr (tw21 hw)) (Or.inr (tw19 hw)) (by decide) (t := (.array .int)) (t' := (.array .int)) (by decide) (by decide)
def sq74 := slot_ne (Or.inr (tw23 hw)) (Or.inr (tw19 hw)) (by decide) (t := (.array .int)) (t' := (.array .int)) (by decide) (by decide)
def sq75 := slot_ne (Or.inr (tw11 hw)) (Or.inr (tw21 hw)) (by decide) (t := .int) (t' := (.array .int)) (by decide) (by decide)
def sq76 := slot_ne (Or.inr (tw13 hw)) (Or.inr (tw21 hw)) (by decide) (t := .int) (t' := (.array .int)) (by decide) (by decide)
def sq77 := slot_ne (Or.inr (tw15 hw)) (Or.inr (tw21 hw)) (by decide) (t := (.array .int)) (t' := (.array .int)) (by decide) (by decide)
def sq78 := slot_ne (Or.inr (tw17 hw)) (Or.inr (tw21 hw)) (by decide) (t := (.array .int)) (t' := (.array .int)) (by decide) (by decide)
def sq79 := slot_ne (Or.inr (tw19 hw)) (Or.inr (tw21 hw)) (by decide) (t := (.array .int)) (t' := (.array .int)) (by decide) (by decide)
def sq80 := slot_ne (Or.inr (tw23 hw)) (Or.inr (tw21 hw)) (by decide) (t := (.array .int)) (t' := (.array .int)) (by decide) (by decide)
end TW
section OwnXS
variable {p : Program} {l : Launch} {e : Env} {R : Room} {s : State} {m : MethodId} {args : Array Value} {below : List Frame} {meth : Method} {c : Code} {T : State} {locs : List Loc} {cells slots C S pc : Nat} {ls : Array Slot} {st : List Value} {b : ByteArray} {Q : Option Value → Heap → List Loc → Prop}
theorem aN (X : Stand p l e R s m args below meth c T locs cells slots) (hx : p.tables.exec = Jvm.exec) (hby : c.code = b) {k : Fin 4} {v : Value} (d : decode b pc = .ok (.aload_n k, 1)) (hl : ls[k.val]? = some (.val v)) (hv : v.isRef = true) (H : Done p e below s Q C S (T.setTop (mkF m (pc + 1) ls (v :: st)))) : Done p e below s Q C S (T.setTop (mkF m pc ls st)) := Done.step (fun t k => XS.aloadN X.here hx rfl (hb hby d) hl hv k) H
theorem aL (X : Stand p l e R s m args below meth c T locs cells slots) (hx : p.tables.exec = Jvm.exec) (hby : c.code = b) {k : Nat} {v : Value} (d : decode b pc = .ok (.aload k, 2)) (hl : ls[k]? = some (.val v)) (hv : v.isRef = true) (H : Done p e below s Q C S (T.setTop (mkF m (pc + 2) ls (v :: st)))) : Done p e below s Q C S (T.setTop (mkF m pc ls st)) := Done.step (fun t k => XS.aload X.here hx rfl (hb hby d) hl hv k) H
theorem iN (X : Stand p l e R s m args below meth c T locs cells slots) (hx : p.tables.exec = Jvm.exec) (hby : c.code = b) {k : Fin 4} {v : Int32} (d : decode b pc = .ok (.iload_n k, 1)) (hl : ls[k.val]? = some (.val (.int v))) (H : Done p e below s Q C S (T.setTop (mkF m (pc + 1) ls (.int v :: st)))) : Done p e below s Q C S (T.setTop (mkF m pc ls st)) := Done.step (fun t k => XS.iloadN X.here hx rfl (hb hby d) hl k) H
theorem iL (X : Stand p l e R s m args below meth c T locs cells slots) (hx : p.tables.exec = Jvm.exec) (hby : c.code = b) {k : Nat} {v : Int32} (d : decode b pc = .ok (.iload k, 2)) (hl : ls[k]? = some (.val (.int v))) (H : Done p e below s Q C S (T.setTop (mkF m (pc + 2) ls (.int v :: st)))) : Done p e below s Q C S (T.setTop (mkF m pc ls st)) := Done.step (fun t k => XS.iload X.here hx rfl (hb hby d) hl k) H
theorem iC (X : Stand p l e R s m args below meth c T locs cells slots) (hx : p.tables.exec = Jvm.exec) (hby : c.code = b) {i : Int} {z : Int32} (d : decode b pc = .ok (.iconst i, 1)) (hz : Int32.ofInt i = z) (H : Done p e below s Q C S (T.setTop (mkF m (pc + 1) ls (.int z :: st)))) : Done p e below s Q C S (T.setTop (mkF m pc ls st)) := Done.step (fun t k => XS.iconst X.here hx rfl (hb hby d) k) (by rw [hz]; exact H)
theorem iA (X : Stand p l e R s m args below meth c T locs cells slots) (hx : p.tables.exec = Jvm.exec) (hby : c.code = b) {x y : Int32} (d : decode b pc = .ok (.iadd, 1)) (H : Done p e below s Q C S (T.setTop (mkF m (pc + 1) ls (.int (x + y) :: st)))) : Done p e below s Q C S (T.setTop (mkF m pc ls (.int y :: .int x :: st))) := Done.step (fun t k => XS.iadd X.here hx rfl (hb hby d) rfl k) H
theorem iS (X : Stand p l e R s m args below meth c T locs cells slots) (hx : p.tables.exec = Jvm.exec) (hby : c.code = b) {x y : Int32} (d : decode b pc = .ok (.isub, 1)) (H : Done p e below s Q C S (T.setTop (mkF m (pc + 1) ls (.int (x - y) :: st)))) : Done p e below s Q C S (T.setTop (mkF m pc ls (.int y :: .int x :: st))) := Done.step (fun t k => XS.isub X.here hx rfl (hb hby d) rfl k) H
theorem dU (X : Stand p l e R s m args below meth c T locs cells slots) (hx : p.tables.exec = Jvm.exec) (hby : c.code = b) {x : Value} (d : decode b pc = .ok (.dup, 1)) (hc : x.category = 1) (H : Done p e below s Q C S (T.setTop (mkF m (pc + 1) ls (x :: x :: st)))) : Done p e below s Q C S (T.setTop (mkF m pc ls (x :: st))) := Done.step (fun t k => XS.dup X.here hx rfl (hb hby d) rfl hc k) H
theorem sN (X : Stand p l e R s m args below meth c T locs cells slots) (hx : p.tables.exec = Jvm.exec) (hby : c.code = b) {k : Fin 4} {x : Int32} {l' : Array Slot} (d : decode b pc = .ok (.istore_n k, 1)) (hl : storeLocals ls k.val (.int x) = some l') (H : Done p e below s Q C S (T.setTop (mkF m (pc + 1) l' st))) : Done p e below s Q C S (T.setTop (mkF m pc ls (.int x :: st))) := Done.step (fun t k => XS.istoreN X.here hx rfl (hb hby d) rfl hl k) H
theorem sL (X : Stand p l e R s m args below meth c T locs cells slots) (hx : p.tables.exec = Jvm.exec) (hby : c.code = b) {k : Nat} {x : Int32} {l' : Array Slot} (d : decode b pc = .ok (.istore k, 2)) (hl : storeLocals ls k (.int x) = some l') (H : Done p e below s Q C S (T.setTop (mkF m (pc + 2) l' st))) : Done p e below s Q C S (T.setTop (mkF m pc ls (.int x :: st))) := Done.step (fun t k => XS.istore X.here hx rfl (hb hby d) rfl hl k) H
theorem iF (X : Stand p l e R s m args below meth c T locs cells slots) (hx : p.tables.exec = Jvm.exec) (hby : c.code = b) {cd : ClassFile.Cond} {o : Int} {x : Int32} (d : decode b pc = .ok (.ifCond cd o, 3)) (hc : ifCond.holds cd x = false) (H : Done p e below s Q C S (T.setTop (mkF m (pc + 3) ls st))) : Done p e below s Q C S (T.setTop (mkF m pc ls (.int x :: st))) := Done.step (fun t k => XS.ifNo X.here hx rfl (hb hby d) rfl hc k) H
theorem cF (X : Stand p l e R s m args below meth c T locs cells slots) (hx : p.tables.exec = Jvm.exec) (hby : c.code = b) {cd : ClassFile.Cond} {o : Int} {x y : Int32} (d : decode b pc = .ok (.if_icmp cd o, 3)) (hc : if_icmp.holds cd x y = false) (H : Done p e below s Q C S (T.setTop (mkF m (pc + 3) ls st))) : Done p e below s Q C S (T.setTop (mkF m pc ls (.int y :: .int x :: st))) := Done.step (fun t k => XS.icmpNo X.here hx rfl (hb hby d) rfl hc k) H
theorem iY (X : Stand p l e R s m args below meth c T locs cells slots) (hx : p.tables.exec = Jvm.exec) (hby : c.code = b) {cd : ClassFile.Cond} {o : Int} {x : Int32} {pc' : Nat} (d : decode b pc = .ok (.ifCond cd o, 3)) (hc : ifCond.holds cd x = true) (ho : 0 ≤ (pc : Int) + o := by decide) (hp : ((pc : Int) + o).toNat = pc' := by decide) (H : Done p e below s Q C S (T.setTop (mkF m pc' ls st))) : Done p e below s Q C S (T.setTop (mkF m pc ls (.int x :: st))) := Done.step (fun t k => XS.ifYes X.here hx rfl rfl (hb hby d) rfl hc ho hp k) H
theorem cY (X : Stand p l e R s m args below meth c T locs cells slots) (hx : p.tables.exec = Jvm.exec) (hby : c.code = b) {cd : ClassFile.Cond} {o : Int} {x y : Int32} {pc' : Nat} (d : decode b pc = .ok (.if_icmp cd o, 3)) (hc : if_icmp.holds cd x y = true) (ho : 0 ≤ (pc : Int) + o := by decide) (hp : ((pc : Int) + o).toNat = pc' := by decide) (H : Done p e below s Q C S (T.setTop (mkF m pc' ls st))) : Done p e below s Q C S (T.setTop (mkF m pc ls (.int y :: .int x :: st))) := Done.step (fun t k => XS.icmpYes X.here hx rfl rfl (hb hby d) rfl hc ho hp k) H
theorem gO (X : Stand p l e R s m args below meth c T locs cells slots) (hx : p.tables.exec = Jvm.exec) (hby : c.code = b) {o : Int} {pc' : Nat} (d : decode b pc = .ok (.goto o, 3)) (ho : 0 ≤ (pc : Int) + o := by decide) (hp : ((pc : Int) + o).toNat = pc' := by decide) (H : Done p e below s Q C S (T.setTop (mkF m pc' ls st))) : Done p e below s Q C S (T.setTop (mkF m pc ls st)) := Done.step (fun t k => XS.goto X.here hx rfl rfl (hb hby d) ho hp k) H
theorem iB (X : Stand p l e R s m args below meth c T locs cells slots) (hx : p.tables.exec = Jvm.exec) (hby : c.code = b) {i : Int} {z : Int32} (d : decode b pc = .ok (.bipush i, 2)) (hz : (Int8.ofInt i).toInt32 = z) (H : Done p e below s Q C S (T.setTop (mkF m (pc + 2) ls (.int z :: st)))) : Done p e below s Q C S (T.setTop (mkF m pc ls st)) := Done.step (fun t k => XS.bipush X.here hx rfl (hb hby d) k) (by rw [hz]; exact H)
theorem aT (X : Stand p l e R s m args below meth c T locs cells slots) (hx : p.tables.exec = Jvm.exec) (hby : c.code = b) {k : Fin 4} {v : Value} {l' : Array Slot} (d : decode b pc = .ok (.astore_n k, 1)) (hv : v.isRef = true) (hl : storeLocals ls k.val v = some l') (H : Done p e below s Q C S (T.setTop (mkF m (pc + 1) l' st))) : Done p e below s Q C S (T.setTop (mkF m pc ls (v :: st))) := Done.step (fun t k => XS.astoreN X.here hx rfl (hb hby d) rfl hv hl k) H
theorem aS (X : Stand p l e R s m args below meth c T locs cells slots) (hx : p.tables.exec = Jvm.exec) (hby : c.code = b) {k : Nat} {v : Value} {l' : Array Slot} (d : decode b pc = .ok (.astore k, 2)) (hv : v.isRef = true) (hl : storeLocals ls k v = some l') (H : Done p e below s Q C S (T.setTop (mkF m (pc + 2) l' st))) : Done p e below s Q C S (T.setTop (mkF m pc ls (v :: st))) := Done.step (fun t k => XS.astore X.here hx rfl (hb hby d) rfl hv hl k) H
theorem iU (X : Stand p l e R s m args below meth c T locs cells slots) (hx : p.tables.exec = Jvm.exec) (hby : c.code = b) {x y : Int32} (d : decode b pc = .ok (.iushr, 1)) (H : Done p e below s Q C S (T.setTop (mkF m (pc + 1) ls (.int ((x.toUInt32 >>> (y &&& 31).toUInt32).toInt32) :: st)))) : Done p e below s Q C S (T.setTop (mkF m pc ls (.int y :: .int x :: st))) := Done.step (fun t k => XS.iushr X.here hx rfl (hb hby d) rfl k) H
theorem jN (X : Stand p l e R s m args below meth c T locs cells slots) (hx : p.tables.exec = Jvm.exec) (hby : c.code = b) {k : Fin 4} {v : Int64} (d : decode b pc = .ok (.lload_n k, 1)) (hl : ls[k.val]? = some (.val (.long v))) (H : Done p e below s Q C S (T.setTop (mkF m (pc + 1) ls (.long v :: st)))) : Done p e below s Q C S (T.setTop (mkF m pc ls st)) := Done.step (fun t k => XS.lloadN X.here hx rfl (hb hby d) hl k) H
theorem jL (X : Stand p l e R s m args below meth c T locs cells slots) (hx : p.tables.exec = Jvm.exec) (hby : c.code = b) {k : Nat} {v : Int64} (d : decode b pc = .ok (.lload k, 2)) (hl : ls[k]? = some (.val (.long v))) (H : Done p e below s Q C S (T.setTop (mkF m (pc + 2) ls (.long v :: st)))) : Done p e below s Q C S (T.setTop (mkF m pc ls st)) := Done.step (fun t k => XS.lload X.here hx rfl (hb hby d) hl k) H
variable {Z : State} {a0 : Array Value} {h : Heap} {own C0 n d : String} {index : Nat}
def gF (X : Stand p l e R s m args below meth c T locs cells slots) (hx : p.tables.exec = Jvm.exec) (hZ : Z.Warmed39 s.vm) (hown : s.vm.findClass own = some m.cls) (w : (Cond.fieldLink own index C0 n d).before a0 Z = true) (eT : T.heap = h) {a : Addr} {v : Value} (F : Fld Z h a C0 n d v) {g : JFrame} (hg : g.method = m) {rest : List Value} (hs : g.stack = .ref a :: rest) (hd : decode c.code g.pc = .ok (.getfield index, 3)) := getF X hx hZ hown (host := "") (Or.inl w) Via.refl eT F hg hs hd
end OwnXS
abbrev Fl0 (Z : State) (h : Heap) (a : Addr) (v : Value) : Prop := Fld Z h a "java/math/MutableBigInteger" "value" "[I" v
abbrev Fl1 (Z : State) (h : Heap) (a : Addr) (v : Value) : Prop := Fld Z h a "java/math/MutableBigInteger" "intLen" "I" v
abbrev Fl2 (Z : State) (h : Heap) (a : Addr) (v : Value) : Prop := Fld Z h a "java/math/MutableBigInteger" "offset" "I" v
abbrev Fl3 (Z : State) (h : Heap) (a : Addr) : Prop := Exa Z h a "java/math/MutableBigInteger"
abbrev Fl4 (Z : State) (h : Heap) (a : Addr) : Prop := Exa Z h a "[I"
abbrev Fl5 (Z : State) (h : Heap) (a : Addr) (v : Value) : Prop := Fld Z h a "java/math/BigInteger" "mag" "[I" v
abbrev Fl6 (Z : State) (h : Heap) (a : Addr) (v : Value) : Prop := Fld Z h a "java/math/BigInteger" "signum" "I" v
abbrev Fl7 (Z : State) (h : Heap) (a : Addr) : Prop := Exa Z h a "java/math/BigInteger"
abbrev Fl8 (Z : State) (h : Heap) (a : Addr) (v : Value) : Prop := Fld Z h a "com/example/dendrocover/dendrocover/Rational" "numerator" "Ljava/math/BigInteger;" v
abbrev Fl9 (Z : State) (h : Heap) (a : Addr) (v : Value) : Prop := Fld Z h a "com/example/dendrocover/dendrocover/Rational" "denominator" "Ljava/math/BigInteger;" v
abbrev Fl10 (Z : State) (h : Heap) (a : Addr) : Prop := Exa Z h a "com/example/dendrocover/dendrocover/Rational"
abbrev Fl11 (Z : State) (h : Heap) (a : Addr) (v : Value) : Prop := Fld Z h a "com/example/dendrocover/dendrocover/Network" "vertexCount" "I" v
abbrev Fl12 (Z : State) (h : Heap) (a : Addr) (v : Value) : Prop := Fld Z h a "com/example/dendrocover/dendrocover/Network" "roadCount" "I" v
abbrev Fl13 (Z : State) (h : Heap) (a : Addr) (v : Value) : Prop := Fld Z h a "com/example/dendrocover/dendrocover/Placement" "spacing" "J" v
abbrev Fl14 (Z : State) (h : Heap) (a : Addr) (v : Value) : Prop := Fld Z h a "com/example/dendrocover/dendrocover/Placement" "unitsPerLength" "J" v
abbrev Fl15 (Z : State) (h : Heap) (a : Addr) (v : Value) : Prop := Fld Z h a "com/example/dendrocover/dendrocover/Placement" "atVertex" "[Z" v
abbrev Fl16 (Z : State) (h : Heap) (a : Addr) (v : Value) : Prop := Fld Z h a "com/example/dendrocover/dendrocover/Placement" "rowLength" "[J" v
abbrev Fl17 (Z : State) (h : Heap) (a : Addr) (v : Value) : Prop := Fld Z h a "com/example/dendrocover/dendrocover/Placement" "rowStart" "[J" v
abbrev Fl18 (Z : State) (h : Heap) (a : Addr) (v : Value) : Prop := Fld Z h a "com/example/dendrocover/dendrocover/Placement" "count" "J" v
abbrev Fl19 (Z : State) (h : Heap) (a : Addr) : Prop := Exa Z h a "com/example/dendrocover/dendrocover/Placement"
abbrev Fl20 (Z : State) (h : Heap) (a : Addr) : Prop := Exa Z h a "com/example/dendrocover/dendrocover/Network"
abbrev Fl21 (Z : State) (h : Heap) (a : Addr) (v : Value) : Prop := Fld Z h a "com/example/dendrocover/dendrocover/Network" "firstEnd" "[I" v
abbrev Fl22 (Z : State) (h : Heap) (a : Addr) (v : Value) : Prop := Fld Z h a "com/example/dendrocover/dendrocover/Network" "secondEnd" "[I" v
abbrev Fl23 (Z : State) (h : Heap) (a : Addr) (v : Value) : Prop := Fld Z h a "com/example/dendrocover/dendrocover/Network" "length" "[I" v
abbrev Fl24 (Z : State) (h : Heap) (a : Addr) (v : Value) : Prop := Fld Z h a "com/example/dendrocover/dendrocover/Network" "incidenceStart" "[I" v
abbrev Fl25 (Z : State) (h : Heap) (a : Addr) (v : Value) : Prop := Fld Z h a "com/example/dendrocover/dendrocover/Network" "incident" "[I" v
theorem pd_0 : parseMethodDescriptor "(I)I" = some ⟨[.int], some .int⟩ := by decide +kernel
theorem pd_1 : parseMethodDescriptor "([II)[I" = some ⟨[(.array .int), .int], some (.array .int)⟩ := by decide +kernel
theorem pd_2 : parseMethodDescriptor "()V" = some ⟨[], none⟩ := by decide +kernel
theorem pd_3 : parseMethodDescriptor "()[I" = some ⟨[], some (.array .int)⟩ := by decide +kernel
theorem pd_4 : parseMethodDescriptor "([II)V" = some ⟨[(.array .int), .int], none⟩ := by decide +kernel
theorem pd_5 : parseMethodDescriptor "(I)V" = some ⟨[.int], none⟩ := by decide +kernel
theorem pd_6 : parseMethodDescriptor "(Ljava/math/MutableBigInteger;)I" = some ⟨[(.object "java/math/MutableBigInteger")], some .int⟩ := by decide +kernel
theorem pd_7 : parseMethodDescriptor "(II)I" = some ⟨[.int, .int], some .int⟩ := by decide +kernel
theorem pd_8 : parseMethodDescriptor "()I" = some ⟨[], some .int⟩ := by decide +kernel
theorem pd_9 : parseMethodDescriptor "(Ljava/math/MutableBigInteger;)Ljava/math/MutableBigInteger;" = some ⟨[(.object "java/math/MutableBigInteger")], some (.object "java/math/MutableBigInteger")⟩ := by decide +kernel
theorem pd_10 : parseMethodDescriptor "()Ljava/math/BigInteger;" = some ⟨[], some (.object "java/math/BigInteger")⟩ := by decide +kernel
theorem pd_11 : parseMethodDescriptor "(Ljava/math/BigInteger;)V" = some ⟨[(.object "java/math/BigInteger")], none⟩ := by decide +kernel
theorem pd_12 : parseMethodDescriptor "(I)Ljava/math/BigInteger;" = some ⟨[.int], some (.object "java/math/BigInteger")⟩ := by decide +kernel
theorem pd_13 : parseMethodDescriptor "(ILjava/math/MutableBigInteger;)I" = some ⟨[.int, (.object "java/math/MutableBigInteger")], some .int⟩ := by decide +kernel
theorem pd_14 : parseMethodDescriptor "(J)V" = some ⟨[.long], none⟩ := by decide +kernel
theorem pd_15 : parseMethodDescriptor "([I)V" = some ⟨[(.array .int)], none⟩ := by decide +kernel
theorem pd_16 : parseMethodDescriptor "(Ljava/math/MutableBigInteger;Ljava/math/MutableBigInteger;Z)Ljava/math/MutableBigInteger;" = some ⟨[(.object "java/math/MutableBigInteger"), (.object "java/math/MutableBigInteger"), .boolean], some (.object "java/math/MutableBigInteger")⟩ := by decide +kernel
theorem pd_17 : parseMethodDescriptor "(Ljava/math/BigInteger;)Ljava/math/BigInteger;" = some ⟨[(.object "java/math/BigInteger")], some (.object "java/math/BigInteger")⟩ := by decide +kernel
theorem pd_18 : parseMethodDescriptor "(Ljava/math/BigInteger;Ljava/math/BigInteger;)V" = some ⟨[(.object "java/math/BigInteger"), (.object "java/math/BigInteger")], none⟩ := by decide +kernel
theorem pd_19 : parseMethodDescriptor "(J)Ljava/math/BigInteger;" = some ⟨[.long], some (.object "java/math/BigInteger")⟩ := by decide +kernel
theorem pd_20 : parseMethodDescriptor "(Ljava/math/BigInteger;Ljava/math/BigInteger;)Lcom/example/dendrocover/dendrocover/Rational;" = some ⟨[(.object "java/math/BigInteger"), (.object "java/math/BigInteger")], some (.object "com/example/dendrocover/dendrocover/Rational")⟩ := by decide +kernel
theorem pd_21 : parseMethodDescriptor "(Ljava/lang/Object;)Z" = some ⟨[(.object "java/lang/Object")], some .boolean⟩ := by decide +kernel
theorem pd_22 : parseMethodDescriptor "(JJ)Lcom/example/dendrocover/dendrocover/Rational;" = some ⟨[.long, .long], some (.object "com/example/dendrocover/dendrocover/Rational")⟩ := by decide +kernel
theorem pd_23 : parseMethodDescriptor "(II[I[I[I)V" = some ⟨[.int, .int, (.array .int), (.array .int), (.array .int)], none⟩ := by decide +kernel
theorem pd_24 : parseMethodDescriptor "(Lcom/example/dendrocover/dendrocover/Network;JJ)V" = some ⟨[(.object "com/example/dendrocover/dendrocover/Network"), .long, .long], none⟩ := by decide +kernel
theorem pd_25 : parseMethodDescriptor "(IJJ)V" = some ⟨[.int, .long, .long], none⟩ := by decide +kernel
theorem pd_26 : parseMethodDescriptor "()J" = some ⟨[], some .long⟩ := by decide +kernel
theorem pd_27 : parseMethodDescriptor "(I)J" = some ⟨[.int], some .long⟩ := by decide +kernel
theorem pd_28 : parseMethodDescriptor "(IJ)Lcom/example/dendrocover/dendrocover/Rational;" = some ⟨[.int, .long], some (.object "com/example/dendrocover/dendrocover/Rational")⟩ := by decide +kernel
theorem pd_29 : parseMethodDescriptor "(J)Lcom/example/dendrocover/dendrocover/Rational;" = some ⟨[.long], some (.object "com/example/dendrocover/dendrocover/Rational")⟩ := by decide +kernel
theorem nl {a b n : Nat} (p : a < n) (g : b = n) : a ≠ b := Nat.ne_of_lt (Nat.lt_of_lt_of_le p (Nat.le_of_eq g.symm))
theorem nz {a b n : Nat} (p : a < n) (g : n ≤ b) : a ≠ b := Nat.ne_of_lt (Nat.lt_of_lt_of_le p g)
theorem lb {n0 n b : Nat} (z : n0 ≤ n) (g : b = n) : n0 ≤ b := Nat.le_trans z (Nat.le_of_eq g.symm)
theorem lw {n0 : Nat} {h h' : Heap} {a : Addr} {sl : Nat} {v : Value} (z : n0 ≤ h.size) (W : Wr h h' a sl v) : n0 ≤ h'.size := Nat.le_trans z (Keep.of_wr W).1
theorem me0 {a : Addr} {l : List Addr} : a ∈ a :: l := List.Mem.head _
theorem me1 {a b : Addr} {l : List Addr} : a ∈ b :: a :: l := List.Mem.tail _ me0
theorem me2 {a b c : Addr} {l : List Addr} : a ∈ b :: c :: a :: l := List.Mem.tail _ me1
theorem me3 {a b c d : Addr} {l : List Addr} : a ∈ b :: c :: d :: a :: l := List.Mem.tail _ me2
theorem ni1 {x a : Addr} (p : x ≠ a) : x ∉ [a] := ninS p nin0
theorem ni2 {x a b : Addr} (p : x ≠ a) (q : x ≠ b) : x ∉ [a, b] := ninS p (ni1 q)
theorem ni3 {x a b c : Addr} (p : x ≠ a) (q : x ≠ b) (r : x ≠ c) : x ∉ [a, b, c] := ninS p (ni2 q r)
theorem ni4 {x a b c d : Addr} (p : x ≠ a) (q : x ≠ b) (r : x ≠ c) (s : x ≠ d) : x ∉ [a, b, c, d] := ninS p (ni3 q r s)
abbrev MF (l : Launch) (cl nm ds : String) (b : ByteArray) (ml : Nat) (rt : Option FieldType) (ws : List Jvm.Cond) (R : Room) (Z : State) (h0 : Heap) (A : Array Value) (Q : Option Value → Heap → List Loc → Prop) : Prop :=
 MetFree l (⟨cl, nm, ds⟩ : MethodName) (head1 (Jvm.Cond.code (⟨cl, nm, ds⟩ : MethodName) b ml rt :: ws) R) (fun a U => a = A ∧ Z.Warmed39 U.vm ∧ U.heap = h0) (fun _ _ _ _ _ => True) (fun _ U o U' => ∃ v L, o = .returned v ∧ Q v U'.heap L ∧ FrameEnd U o U' L R.cells R.slots)
theorem own_body {l : Launch} {cl nm ds : String} {b : ByteArray} {ml : Nat} {rt : Option FieldType} {ws : List Jvm.Cond} {R : Room} {Z : State} {h0 : Heap} {n0 : Nat} {A : Array Value} {Q : Option Value → Heap → List Loc → Prop} (hp : plainFor (⟨cl, nm, ds⟩ : MethodName) = true) {fr : MethodId → JFrame} (hef : ∀ m, entryFrame m A ml = fr m)
  (H : ∀ (p : Program) (e : Env) (s : State) (m : MethodId) (below : List Frame) (meth : Method) (c : Code) (s₁ : State), Z.Warmed39 s.vm → p.tables.exec = Jvm.exec → c.code = b → c.maxLocals = ml → s.vm.findClass cl = some m.cls → meth.locks = false → meth.sig.returnType = rt → meth.name = nm → Stand p l e R s m A below meth c s₁ [] 0 0 → s₁.heap = h0 → Fr n0 [] → Done p e below s Q R.cells R.slots (s₁.setTop (fr m))) : MF l cl nm ds b ml rt ws R Z h0 A Q := by
 refine MetFree.of_bodySF hp hisR ?_
 intro p e s m args below meth c s₁ Bd hml0 hP hK
 obtain ⟨rfl, hZ, hhp⟩ := hP
 exact Done.step (fun t k => castTop (hef m) k) (H p e s m below meth c s₁ hZ Bd.exec Bd.bytes hml0 (findClass_of_methodNamed Bd.named) (BodyLoose.notSynchronized Bd) Bd.returns (name_of_methodNamed Bd.named Bd.method).1 (Stand.of_body Bd) (by rw [← hhp, Bd.state]; rfl) (Fr.nil n0))
section OwnCalls
variable {p : Program} {l : Launch} {e : Env} {R rm : Room} {s : State} {m : MethodId} {args a0 : Array Value} {below : List Frame} {meth : Method} {c : Code} {T Z : State} {locs : List Loc} {cells slots ml n index W : Nat} {h : Heap} {cl nm ds own : String} {b : ByteArray} {rt : Option FieldType} {as' : Array Value} {Q : Option Value → Heap → List Loc → Prop} {g : JFrame} {argsL rest : List Value} {a : Addr}
theorem cS (X : Stand p l e R s m args below meth c T locs cells slots) (hx : p.tables.exec = Jvm.exec) (hZ : Z.Warmed39 s.vm) (hown : s.vm.findClass own = some m.cls) (wl : (Cond.methodLink own index ⟨cl, nm, ds⟩).before a0 Z = true) (wi : (Cond.static ⟨cl, nm, ds⟩).before a0 Z = true) (wz : (Cond.initialized cl).before a0 Z = true) (wc : (Cond.code ⟨cl, nm, ds⟩ b ml rt).before a0 Z = true)
  (hM : MF l cl nm ds b ml rt [] rm Z h as' Q) (eT : T.heap = h) (hg : g.method = m) (hml : c.maxLocals = n) (hsz : g.locals.size = n) (hlen : ∀ sig, parseMethodDescriptor ds = some sig → argsL.length = sig.parameters.length) (hst : g.stack = argsL.reverse ++ rest) (hmo : g.monitorRoom = 0) (hW : (rest.map fun v => v.category).sum = W) (hd : decode c.code g.pc = .ok (.invokestatic index, 3)) (ha : argsL.toArray = as') (hy : cl ≠ "java/lang/invoke/MethodHandle" ∧ cl ≠ "java/lang/invoke/VarHandle" := by decide) (hf : rm.frames + 1 ≤ R.frames := by decide) (hl : W + (ml + 11) + rm.locals ≤ R.locals := by decide) (hc : cells + rm.cells ≤ R.cells := by decide) (hs : slots + rm.slots ≤ R.slots := by decide) :
  ∃ (v : Option Value) (T' : State) (L : List Loc), Stand p l e R s m args below meth c T' (locs ++ L) (cells + rm.cells) (slots + rm.slots) ∧ Q v T'.heap L ∧ ∀ target, Steps p.tables e below (T'.setTop { g with pc := g.pc + 3, stack := v.toList ++ rest }) target → Steps p.tables e below (T.setTop g) target := by
 obtain ⟨v, _, ⟨T', L', k', n'⟩, -, X', ⟨Lc, hQ, l1, y1, z1⟩, st⟩ := Jvm.LawKit.callS X hx (y := ⟨cl, nm, ds⟩) hown (mvT hZ wl) (mvT hZ wi) (mvT hZ wz) (mvT hZ wc) hy (backOf (W := W) hM hZ wc wz hf hl) hg (hsz.trans hml.symm) hlen hst (by rw [hmo, hW]; omega) hd (fun _ _ => ⟨ha, eT, hc, hs⟩)
 dsimp only [Pt.U, Pt.locs, Pt.cells, Pt.slots] at X' l1 y1 z1 st hQ
 subst l1 y1 z1
 exact ⟨v, T', Lc, X', hQ, st⟩
theorem cI (X : Stand p l e R s m args below meth c T locs cells slots) (hx : p.tables.exec = Jvm.exec) (hZ : Z.Warmed39 s.vm) (hown : s.vm.findClass own = some m.cls) (wl : (Cond.methodLink own index ⟨cl, "<init>", ds⟩).before a0 Z = true) (wi : (Cond.instanceMethod ⟨cl, "<init>", ds⟩).before a0 Z = true) (wz : (Cond.initialized cl).before a0 Z = true) (wc : (Cond.code ⟨cl, "<init>", ds⟩ b ml none).before a0 Z = true)
  (hM : MF l cl "<init>" ds b ml none [] rm Z h as' Q) (eT : T.heap = h) (hg : g.method = m) (hml : c.maxLocals = n) (hsz : g.locals.size = n) (hlen : ∀ sig, parseMethodDescriptor ds = some sig → argsL.length = sig.parameters.length) (hst : g.stack = argsL.reverse ++ .ref a :: rest) (hmo : g.monitorRoom = 0) (hW : (rest.map fun v => v.category).sum = W) (hd : decode c.code g.pc = .ok (.invokespecial index, 3)) (ha : (.ref a :: argsL).toArray = as') (hy : cl ≠ "java/lang/invoke/MethodHandle" ∧ cl ≠ "java/lang/invoke/VarHandle" := by decide) (hf : rm.frames + 1 ≤ R.frames := by decide) (hl : W + (ml + 11) + rm.locals ≤ R.locals := by decide) (hc : cells + rm.cells ≤ R.cells := by decide) (hs : slots + rm.slots ≤ R.slots := by decide) :
  ∃ (v : Option Value) (T' : State) (L : List Loc), Stand p l e R s m args below meth c T' (locs ++ L) (cells + rm.cells) (slots + rm.slots) ∧ Q v T'.heap L ∧ Steps p.tables e below (T.setTop g) (T'.setTop { g with pc := g.pc + 3, stack := v.toList ++ rest }) := by
 obtain ⟨v, _, ⟨T', L', k', n'⟩, -, X', ⟨Lc, hQ, l1, y1, z1⟩, st⟩ := X.specialBack hx (y := ⟨cl, "<init>", ds⟩) rfl hown (mvT hZ wl) (mvT hZ wi) (mvT hZ wc) hy (backOf (W := W) hM hZ wc wz hf hl) hg (hsz.trans hml.symm) (Steps.refl _) (a := a) hlen hst (by rw [hmo, hW]; omega) hd (fun _ _ => ⟨ha, eT, hc, hs⟩)
 dsimp only [Pt.U, Pt.locs, Pt.cells, Pt.slots] at X' l1 y1 z1 st hQ
 subst l1 y1 z1
 exact ⟨v, T', Lc, X', hQ, st⟩
theorem cP (X : Stand p l e R s m args below meth c T locs cells slots) (hx : p.tables.exec = Jvm.exec) (hZ : Z.Warmed39 s.vm) (hown : s.vm.findClass own = some m.cls) (wl : (Cond.methodLink own index ⟨cl, nm, ds⟩).before a0 Z = true) (wi : (Cond.instanceMethod ⟨cl, nm, ds⟩).before a0 Z = true) (we : (Cond.selects cl ⟨cl, nm, ds⟩ ⟨cl, nm, ds⟩).before a0 Z = true) (wp : (Cond.privateMethod ⟨cl, nm, ds⟩).before a0 Z = true) (wz : (Cond.initialized cl).before a0 Z = true) (wc : (Cond.code ⟨cl, nm, ds⟩ b ml rt).before a0 Z = true)
  (hM : MF l cl nm ds b ml rt [] rm Z h as' Q) (eT : T.heap = h) (E : Exa Z h a cl) (hg : g.method = m) (hml : c.maxLocals = n) (hsz : g.locals.size = n) (hlen : ∀ sig, parseMethodDescriptor ds = some sig → argsL.length = sig.parameters.length) (hst : g.stack = argsL.reverse ++ .ref a :: rest) (hmo : g.monitorRoom = 0) (hW : (rest.map fun v => v.category).sum = W) (hd : decode c.code g.pc = .ok (.invokevirtual index, 3)) (ha : (.ref a :: argsL).toArray = as') (hy : cl ≠ "java/lang/invoke/MethodHandle" ∧ cl ≠ "java/lang/invoke/VarHandle" := by decide) (hf : rm.frames + 1 ≤ R.frames := by decide) (hl : W + (ml + 11) + rm.locals ≤ R.locals := by decide) (hc : cells + rm.cells ≤ R.cells := by decide) (hs : slots + rm.slots ≤ R.slots := by decide) :
  ∃ (v : Option Value) (T' : State) (L : List Loc), Stand p l e R s m args below meth c T' (locs ++ L) (cells + rm.cells) (slots + rm.slots) ∧ Q v T'.heap L ∧ Steps p.tables e below (T.setTop g) (T'.setTop { g with pc := g.pc + 3, stack := v.toList ++ rest }) := by
 obtain ⟨cq, qa, qb⟩ := Exa.cell E
 obtain ⟨v, _, ⟨T', L', k', n'⟩, -, X', ⟨Lc, hQ, l1, y1, z1⟩, st⟩ := X.privateBack hx (y := ⟨cl, nm, ds⟩) hown (mvT hZ wl) (mvT hZ wi) (mvT hZ we) (Cond.privateMethod_at (args := #[]) (mvP hZ wp)) (mvT hZ wc) hy (backOf (W := W) hM hZ wc wz hf hl) hg (hsz.trans hml.symm) (Steps.refl _) (by rw [eT]; exact qa) qb hlen hst (by rw [hmo, hW]; omega) hd (fun _ _ => ⟨ha, eT, hc, hs⟩)
 dsimp only [Pt.U, Pt.locs, Pt.cells, Pt.slots] at X' l1 y1 z1 st hQ
 subst l1 y1 z1
 exact ⟨v, T', Lc, X', hQ, st⟩
theorem cV {C : String} (X : Stand p l e R s m args below meth c T locs cells slots) (hx : p.tables.exec = Jvm.exec) (hZ : Z.Warmed39 s.vm) (hown : s.vm.findClass own = some m.cls) (wl : (Cond.methodLink own index ⟨cl, nm, ds⟩).before a0 Z = true) (wd : (Cond.declares ⟨cl, nm, ds⟩).before a0 Z = true) (we : (Cond.selects C ⟨cl, nm, ds⟩ ⟨cl, nm, ds⟩).before a0 Z = true) (wi : (Cond.instanceMethod ⟨cl, nm, ds⟩).before a0 Z = true) (wz : (Cond.initialized cl).before a0 Z = true) (wc : (Cond.code ⟨cl, nm, ds⟩ b ml rt).before a0 Z = true)
  (hM : MF l cl nm ds b ml rt [] rm Z h as' Q) (eT : T.heap = h) (E : Exa Z h a C) (hg : g.method = m) (hml : c.maxLocals = n) (hsz : g.locals.size = n) (hlen : ∀ sig, parseMethodDescriptor ds = some sig → argsL.length = sig.parameters.length) (hst : g.stack = argsL.reverse ++ .ref a :: rest) (hmo : g.monitorRoom = 0) (hW : (rest.map fun v => v.category).sum = W) (hd : decode c.code g.pc = .ok (.invokevirtual index, 3)) (ha : (.ref a :: argsL).toArray = as') (hy : cl ≠ "java/lang/invoke/MethodHandle" ∧ cl ≠ "java/lang/invoke/VarHandle" := by decide) (hf : rm.frames + 1 ≤ R.frames := by decide) (hl : W + (ml + 11) + rm.locals ≤ R.locals := by decide) (hc : cells + rm.cells ≤ R.cells := by decide) (hs : slots + rm.slots ≤ R.slots := by decide) :
  ∃ (v : Option Value) (T' : State) (L : List Loc), Stand p l e R s m args below meth c T' (locs ++ L) (cells + rm.cells) (slots + rm.slots) ∧ Q v T'.heap L ∧ Steps p.tables e below (T.setTop g) (T'.setTop { g with pc := g.pc + 3, stack := v.toList ++ rest }) := by
 obtain ⟨cq, kq, qa, qb, qc⟩ := isOf hZ eT E
 obtain ⟨v, _, ⟨T', L', k', n'⟩, -, X', ⟨Lc, hQ, l1, y1, z1⟩, st⟩ := X.virtualBack hx (y := ⟨cl, nm, ds⟩) (z := ⟨cl, nm, ds⟩) hown (mvT hZ wl) (mvT hZ wd) (notFace_of_selects (args := #[]) (mvT hZ we)) (mvT hZ we) (mvT hZ wi) hy (backOf (W := W) hM hZ wc wz hf hl) qa qc hg (hsz.trans hml.symm) (Steps.refl _) hlen hst (by rw [hmo, hW]; omega) hd (fun _ _ => ⟨ha, eT, hc, hs⟩)
 dsimp only [Pt.U, Pt.locs, Pt.cells, Pt.slots] at X' l1 y1 z1 st hQ
 subst l1 y1 z1
 exact ⟨v, T', Lc, X', hQ, st⟩
end OwnCalls
theorem d22_0 : dq cd0 0 (.iload_n 0) 1 := by decide +kernel
theorem d22_1 : dq cd0 1 (.iconst (-1)) 1 := by decide +kernel
theorem d22_2 : dq cd0 2 .ixor 1 := by decide +kernel
theorem d22_3 : dq cd0 3 (.iload_n 0) 1 := by decide +kernel
theorem d22_4 : dq cd0 4 (.iconst 1) 1 := by decide +kernel
theorem d22_5 : dq cd0 5 .isub 1 := by decide +kernel
theorem d22_6 : dq cd0 6 .iand 1 := by decide +kernel
theorem d22_7 : dq cd0 7 (.istore_n 0) 1 := by decide +kernel
theorem d22_8 : dq cd0 8 (.iload_n 0) 1 := by decide +kernel
theorem d22_9 : dq cd0 9 (.ifCond .gt 8) 3 := by decide +kernel
theorem d22_12 : dq cd0 12 (.iload_n 0) 1 := by decide +kernel
theorem d22_13 : dq cd0 13 (.bipush 32) 2 := by decide +kernel
theorem d22_15 : dq cd0 15 .iand 1 := by decide +kernel
theorem d22_16 : dq cd0 16 .ireturn 1 := by decide +kernel
theorem d22_17 : dq cd0 17 (.iconst 1) 1 := by decide +kernel
theorem d22_18 : dq cd0 18 (.istore_n 1) 1 := by decide +kernel
theorem d22_19 : dq cd0 19 (.iload_n 0) 1 := by decide +kernel
theorem d22_20 : dq cd0 20 (.ldc_w 264) 3 := by decide +kernel
theorem d22_23 : dq cd0 23 (.if_icmp .le 11) 3 := by decide +kernel
theorem d22_26 : dq cd0 26 (.iinc 1 16) 3 := by decide +kernel
theorem d22_29 : dq cd0 29 (.iload_n 0) 1 := by decide +kernel
theorem d22_30 : dq cd0 30 (.bipush 16) 2 := by decide +kernel
theorem d22_32 : dq cd0 32 .iushr 1 := by decide +kernel
theorem d22_33 : dq cd0 33 (.istore_n 0) 1 := by decide +kernel
theorem d22_34 : dq cd0 34 (.iload_n 0) 1 := by decide +kernel
theorem d22_35 : dq cd0 35 (.sipush 256) 3 := by decide +kernel
theorem d22_38 : dq cd0 38 (.if_icmp .le 11) 3 := by decide +kernel
theorem d22_41 : dq cd0 41 (.iinc 1 8) 3 := by decide +kernel
theorem d22_44 : dq cd0 44 (.iload_n 0) 1 := by decide +kernel
theorem d22_45 : dq cd0 45 (.bipush 8) 2 := by decide +kernel
theorem d22_47 : dq cd0 47 .iushr 1 := by decide +kernel
theorem d22_48 : dq cd0 48 (.istore_n 0) 1 := by decide +kernel
theorem d22_49 : dq cd0 49 (.iload_n 0) 1 := by decide +kernel
theorem d22_50 : dq cd0 50 (.bipush 16) 2 := by decide +kernel
theorem d22_52 : dq cd0 52 (.if_icmp .le 10) 3 := by decide +kernel
theorem d22_55 : dq cd0 55 (.iinc 1 4) 3 := by decide +kernel
theorem d22_58 : dq cd0 58 (.iload_n 0) 1 := by decide +kernel
theorem d22_59 : dq cd0 59 (.iconst 4) 1 := by decide +kernel
theorem d22_60 : dq cd0 60 .iushr 1 := by decide +kernel
theorem d22_61 : dq cd0 61 (.istore_n 0) 1 := by decide +kernel
theorem d22_62 : dq cd0 62 (.iload_n 0) 1 := by decide +kernel
theorem d22_63 : dq cd0 63 (.iconst 4) 1 := by decide +kernel
theorem d22_64 : dq cd0 64 (.if_icmp .le 10) 3 := by decide +kernel
theorem d22_67 : dq cd0 67 (.iinc 1 2) 3 := by decide +kernel
theorem d22_70 : dq cd0 70 (.iload_n 0) 1 := by decide +kernel
theorem d22_71 : dq cd0 71 (.iconst 2) 1 := by decide +kernel
theorem d22_72 : dq cd0 72 .iushr 1 := by decide +kernel
theorem d22_73 : dq cd0 73 (.istore_n 0) 1 := by decide +kernel
theorem d22_74 : dq cd0 74 (.iload_n 1) 1 := by decide +kernel
theorem d22_75 : dq cd0 75 (.iload_n 0) 1 := by decide +kernel
theorem d22_76 : dq cd0 76 (.iconst 1) 1 := by decide +kernel
theorem d22_77 : dq cd0 77 .iushr 1 := by decide +kernel
theorem d22_78 : dq cd0 78 .iadd 1 := by decide +kernel
theorem d22_79 : dq cd0 79 .ireturn 1 := by decide +kernel
def F22 (p1 : Int32) : Int32 := (if (0 : Int32) < ((p1 ^^^ (-1 : Int32)) &&& (p1 - (1 : Int32))) then (if (65536 : Int32) < ((p1 ^^^ (-1 : Int32)) &&& (p1 - (1 : Int32))) then (if (256 : Int32) < ((((p1 ^^^ (-1 : Int32)) &&& (p1 - (1 : Int32))).toUInt32 >>> ((16 : Int32) &&& 31).toUInt32).toInt32) then (if (16 : Int32) < ((((((p1 ^^^ (-1 : Int32)) &&& (p1 - (1 : Int32))).toUInt32 >>> ((16 : Int32) &&& 31).toUInt32).toInt32).toUInt32 >>> ((8 : Int32) &&& 31).toUInt32).toInt32) then (if (4 : Int32) < ((((((((p1 ^^^ (-1 : Int32)) &&& (p1 - (1 : Int32))).toUInt32 >>> ((16 : Int32) &&& 31).toUInt32).toInt32).toUInt32 >>> ((8 : Int32) &&& 31).toUInt32).toInt32).toUInt32 >>> ((4 : Int32) &&& 31).toUInt32).toInt32) then ((((((1 : Int32) + (16 : Int32)) + (8 : Int32)) + (4 : Int32)) + (2 : Int32)) + ((((((((((((p1 ^^^ (-1 : Int32)) &&& (p1 - (1 : Int32))).toUInt32 >>> ((16 : Int32) &&& 31).toUInt32).toInt32).toUInt32 >>> ((8 : Int32) &&& 31).toUInt32).toInt32).toUInt32 >>> ((4 : Int32) &&& 31).toUInt32).toInt32).toUInt32 >>> ((2 : Int32) &&& 31).toUInt32).toInt32).toUInt32 >>> ((1 : Int32) &&& 31).toUInt32).toInt32))
     else (((((1 : Int32) + (16 : Int32)) + (8 : Int32)) + (4 : Int32)) + ((((((((((p1 ^^^ (-1 : Int32)) &&& (p1 - (1 : Int32))).toUInt32 >>> ((16 : Int32) &&& 31).toUInt32).toInt32).toUInt32 >>> ((8 : Int32) &&& 31).toUInt32).toInt32).toUInt32 >>> ((4 : Int32) &&& 31).toUInt32).toInt32).toUInt32 >>> ((1 : Int32) &&& 31).toUInt32).toInt32)))
    else (if (4 : Int32) < ((((((p1 ^^^ (-1 : Int32)) &&& (p1 - (1 : Int32))).toUInt32 >>> ((16 : Int32) &&& 31).toUInt32).toInt32).toUInt32 >>> ((8 : Int32) &&& 31).toUInt32).toInt32) then (((((1 : Int32) + (16 : Int32)) + (8 : Int32)) + (2 : Int32)) + ((((((((((p1 ^^^ (-1 : Int32)) &&& (p1 - (1 : Int32))).toUInt32 >>> ((16 : Int32) &&& 31).toUInt32).toInt32).toUInt32 >>> ((8 : Int32) &&& 31).toUInt32).toInt32).toUInt32 >>> ((2 : Int32) &&& 31).toUInt32).toInt32).toUInt32 >>> ((1 : Int32) &&& 31).toUInt32).toInt32))
     else ((((1 : Int32) + (16 : Int32)) + (8 : Int32)) + ((((((((p1 ^^^ (-1 : Int32)) &&& (p1 - (1 : Int32))).toUInt32 >>> ((16 : Int32) &&& 31).toUInt32).toInt32).toUInt32 >>> ((8 : Int32) &&& 31).toUInt32).toInt32).toUInt32 >>> ((1 : Int32) &&& 31).toUInt32).toInt32))))
   else (if (16 : Int32) < ((((p1 ^^^ (-1 : Int32)) &&& (p1 - (1 : Int32))).toUInt32 >>> ((16 : Int32) &&& 31).toUInt32).toInt32) then (if (4 : Int32) < ((((((p1 ^^^ (-1 : Int32)) &&& (p1 - (1 : Int32))).toUInt32 >>> ((16 : Int32) &&& 31).toUInt32).toInt32).toUInt32 >>> ((4 : Int32) &&& 31).toUInt32).toInt32) then (((((1 : Int32) + (16 : Int32)) + (4 : Int32)) + (2 : Int32)) + ((((((((((p1 ^^^ (-1 : Int32)) &&& (p1 - (1 : Int32))).toUInt32 >>> ((16 : Int32) &&& 31).toUInt32).toInt32).toUInt32 >>> ((4 : Int32) &&& 31).toUInt32).toInt32).toUInt32 >>> ((2 : Int32) &&& 31).toUInt32).toInt32).toUInt32 >>> ((1 : Int32) &&& 31).toUInt32).toInt32))
     else ((((1 : Int32) + (16 : Int32)) + (4 : Int32)) + ((((((((p1 ^^^ (-1 : Int32)) &&& (p1 - (1 : Int32))).toUInt32 >>> ((16 : Int32) &&& 31).toUInt32).toInt32).toUInt32 >>> ((4 : Int32) &&& 31).toUInt32).toInt32).toUInt32 >>> ((1 : Int32) &&& 31).toUInt32).toInt32)))
    else (if (4 : Int32) < ((((p1 ^^^ (-1 : Int32)) &&& (p1 - (1 : Int32))).toUInt32 >>> ((16 : Int32) &&& 31).toUInt32).toInt32) then ((((1 : Int32) + (16 : Int32)) + (2 : Int32)) + ((((((((p1 ^^^ (-1 : Int32)) &&& (p1 - (1 : Int32))).toUInt32 >>> ((16 : Int32) &&& 31).toUInt32).toInt32).toUInt32 >>> ((2 : Int32) &&& 31).toUInt32).toInt32).toUInt32 >>> ((1 : Int32) &&& 31).toUInt32).toInt32))
     else (((1 : Int32) + (16 : Int32)) + ((((((p1 ^^^ (-1 : Int32)) &&& (p1 - (1 : Int32))).toUInt32 >>> ((16 : Int32) &&& 31).toUInt32).toInt32).toUInt32 >>> ((1 : Int32) &&& 31).toUInt32).toInt32)))))
  else (if (256 : Int32) < ((p1 ^^^ (-1 : Int32)) &&& (p1 - (1 : Int32))) then (if (16 : Int32) < ((((p1 ^^^ (-1 : Int32)) &&& (p1 - (1 : Int32))).toUInt32 >>> ((8 : Int32) &&& 31).toUInt32).toInt32) then (if (4 : Int32) < ((((((p1 ^^^ (-1 : Int32)) &&& (p1 - (1 : Int32))).toUInt32 >>> ((8 : Int32) &&& 31).toUInt32).toInt32).toUInt32 >>> ((4 : Int32) &&& 31).toUInt32).toInt32) then (((((1 : Int32) + (8 : Int32)) + (4 : Int32)) + (2 : Int32)) + ((((((((((p1 ^^^ (-1 : Int32)) &&& (p1 - (1 : Int32))).toUInt32 >>> ((8 : Int32) &&& 31).toUInt32).toInt32).toUInt32 >>> ((4 : Int32) &&& 31).toUInt32).toInt32).toUInt32 >>> ((2 : Int32) &&& 31).toUInt32).toInt32).toUInt32 >>> ((1 : Int32) &&& 31).toUInt32).toInt32))
     else ((((1 : Int32) + (8 : Int32)) + (4 : Int32)) + ((((((((p1 ^^^ (-1 : Int32)) &&& (p1 - (1 : Int32))).toUInt32 >>> ((8 : Int32) &&& 31).toUInt32).toInt32).toUInt32 >>> ((4 : Int32) &&& 31).toUInt32).toInt32).toUInt32 >>> ((1 : Int32) &&& 31).toUInt32).toInt32)))
    else (if (4 : Int32) < ((((p1 ^^^ (-1 : Int32)) &&& (p1 - (1 : Int32))).toUInt32 >>> ((8 : Int32) &&& 31).toUInt32).toInt32) then ((((1 : Int32) + (8 : Int32)) + (2 : Int32)) + ((((((((p1 ^^^ (-1 : Int32)) &&& (p1 - (1 : Int32))).toUInt32 >>> ((8 : Int32) &&& 31).toUInt32).toInt32).toUInt32 >>> ((2 : Int32) &&& 31).toUInt32).toInt32).toUInt32 >>> ((1 : Int32) &&& 31).toUInt32).toInt32))
     else (((1 : Int32) + (8 : Int32)) + ((((((p1 ^^^ (-1 : Int32)) &&& (p1 - (1 : Int32))).toUInt32 >>> ((8 : Int32) &&& 31).toUInt32).toInt32).toUInt32 >>> ((1 : Int32) &&& 31).toUInt32).toInt32))))
   else (if (16 : Int32) < ((p1 ^^^ (-1 : Int32)) &&& (p1 - (1 : Int32))) then (if (4 : Int32) < ((((p1 ^^^ (-1 : Int32)) &&& (p1 - (1 : Int32))).toUInt32 >>> ((4 : Int32) &&& 31).toUInt32).toInt32) then ((((1 : Int32) + (4 : Int32)) + (2 : Int32)) + ((((((((p1 ^^^ (-1 : Int32)) &&& (p1 - (1 : Int32))).toUInt32 >>> ((4 : Int32) &&& 31).toUInt32).toInt32).toUInt32 >>> ((2 : Int32) &&& 31).toUInt32).toInt32).toUInt32 >>> ((1 : Int32) &&& 31).toUInt32).toInt32))
     else (((1 : Int32) + (4 : Int32)) + ((((((p1 ^^^ (-1 : Int32)) &&& (p1 - (1 : Int32))).toUInt32 >>> ((4 : Int32) &&& 31).toUInt32).toInt32).toUInt32 >>> ((1 : Int32) &&& 31).toUInt32).toInt32)))
    else (if (4 : Int32) < ((p1 ^^^ (-1 : Int32)) &&& (p1 - (1 : Int32))) then (((1 : Int32) + (2 : Int32)) + ((((((p1 ^^^ (-1 : Int32)) &&& (p1 - (1 : Int32))).toUInt32 >>> ((2 : Int32) &&& 31).toUInt32).toInt32).toUInt32 >>> ((1 : Int32) &&& 31).toUInt32).toInt32))
     else ((1 : Int32) + ((((p1 ^^^ (-1 : Int32)) &&& (p1 - (1 : Int32))).toUInt32 >>> ((1 : Int32) &&& 31).toUInt32).toInt32))))))
 else (((p1 ^^^ (-1 : Int32)) &&& (p1 - (1 : Int32))) &&& (32 : Int32)))
theorem pn_22 : plainName "java/lang/Integer" = true := by first | (simp [plainName, overriddenIn]; done) | decide +kernel
theorem ef_22 (m : MethodId) (p1 : Int32) : entryFrame m #[(.int p1)] 2 = mkF m 0 #[.val (.int p1), .unset] [] := by first | (simp [entryFrame, mkF, argsToLocals, Value.category]; done) | rfl
theorem rm22 (l : Launch) (Z : State) (a0 : Array Value) (hw : HH a0 Z) (ws : List Jvm.Cond) (p1 : Int32) (h0 : Heap) (n0 : Nat) (Z0 : n0 ≤ h0.size) : MF l "java/lang/Integer" "numberOfTrailingZeros" "(I)I" jdk_33_method_48_code 2 (some .int) ws ⟨0, 0, 0, 0⟩ Z h0 #[(.int p1)] (fun v h L => v = some (.int (F22 p1)) ∧ Fr n0 L ∧ h = h0) := by
 refine own_body (n0 := n0) (plainFor_of_name pn_22) (fun m => ef_22 m p1) ?_
 intro p e s m below meth c s₁ hZ hx hby hml hown hlk hret hnm X0 e0 N0
 show Aq s₁ 0 #[vi p1, vu] []
 refine iN X0 hx hby d22_0 rfl ?_
 refine iC X0 hx hby d22_1 (z := (-1)) rfl ?_
 refine dS (fun t k => XS.ixor X0.here hx rfl (hb hby d22_2) rfl k) ?_
 show Aq s₁ 3 #[vi p1, vu] [(.int (p1 ^^^ (-1 : Int32)))]
 refine iN X0 hx hby d22_3 rfl ?_
 refine iC X0 hx hby d22_4 (z := 1) rfl ?_
 refine iS X0 hx hby d22_5 ?_
 refine dS (fun t k => XS.iand X0.here hx rfl (hb hby d22_6) rfl k) ?_
 show Aq s₁ 7 #[vi p1, vu] [(.int ((p1 ^^^ (-1 : Int32)) &&& (p1 - (1 : Int32))))]
 generalize dx1 : ((p1 ^^^ (-1 : Int32)) &&& (p1 - (1 : Int32))) = x1
 show Aq s₁ 7 #[vi p1, vu] [(.int x1)]
 refine sN X0 hx hby d22_7 (l' := #[vi x1, vu]) rfl ?_
 refine iN X0 hx hby d22_8 rfl ?_
 by_cases c1 : (0 : Int32) < x1
 ·refine iY X0 hx hby d22_9 (pc' := 17) ((if0 _ _).trans (tlt c1).2.2.1) (H := ?_)
  refine iC X0 hx hby d22_17 (z := 1) rfl ?_
  refine sN X0 hx hby d22_18 (l' := #[vi x1, vi 1]) rfl ?_
  refine iN X0 hx hby d22_19 rfl ?_
  refine dS (X0.ldcwInt hx hown (mvT hZ (tw156 hw)) (g := (mkF m 20 #[vi x1, vi 1] [(.int x1)])) rfl (hb hby d22_20)) ?_
  show Aq s₁ 23 #[vi x1, vi 1] [(.int 65536), (.int x1)]
  by_cases c2 : (65536 : Int32) < x1
  ·refine cF X0 hx hby d22_23 (tlt c2).2.2.2 ?_
   refine dS (fun t k => XS.iinc X0.here hx rfl (hb hby d22_26) rfl (l' := #[vi x1, vi ((1 : Int32) + (16 : Int32))]) rfl k) ?_
   show Aq s₁ 29 #[vi x1, vi ((1 : Int32) + (16 : Int32))] []
   refine iN X0 hx hby d22_29 rfl ?_
   refine iB X0 hx hby d22_30 (z := 16) rfl ?_
   refine iU X0 hx hby d22_32 ?_
   generalize dx2 : ((x1.toUInt32 >>> ((16 : Int32) &&& 31).toUInt32).toInt32) = x2
   show Aq s₁ 33 #[vi x1, vi ((1 : Int32) + (16 : Int32))] [(.int x2)]
   refine sN X0 hx hby d22_33 (l' := #[vi x2, vi ((1 : Int32) + (16 : Int32))]) rfl ?_
   refine iN X0 hx hby d22_34 rfl ?_
   refine dS (fun t k => XS.sipush X0.here hx rfl (hb hby d22_35) k) ?_
   show Aq s₁ 38 #[vi x2, vi ((1 : Int32) + (16 : Int32))] [(.int 256), (.int x2)]
   by_cases c3 : (256 : Int32) < x2
   ·refine cF X0 hx hby d22_38 (tlt c3).2.2.2 ?_
    refine dS (fun t k => XS.iinc X0.here hx rfl (hb hby d22_41) rfl (l' := #[vi x2, vi (((1 : Int32) + (16 : Int32)) + (8 : Int32))]) rfl k) ?_
    show Aq s₁ 44 #[vi x2, vi (((1 : Int32) + (16 : Int32)) + (8 : Int32))] []
    refine iN X0 hx hby d22_44 rfl ?_
    refine iB X0 hx hby d22_45 (z := 8) rfl ?_
    refine iU X0 hx hby d22_47 ?_
    generalize dx3 : ((x2.toUInt32 >>> ((8 : Int32) &&& 31).toUInt32).toInt32) = x3
    show Aq s₁ 48 #[vi x2, vi (((1 : Int32) + (16 : Int32)) + (8 : Int32))] [(.int x3)]
    refine sN X0 hx hby d22_48 (l' := #[vi x3, vi (((1 : Int32) + (16 : Int32)) + (8 : Int32))]) rfl ?_
    refine iN X0 hx hby d22_49 rfl ?_
    refine iB X0 hx hby d22_50 (z := 16) rfl ?_
    by_cases c4 : (16 : Int32) < x3
    ·refine cF X0 hx hby d22_52 (tlt c4).2.2.2 ?_
     refine dS (fun t k => XS.iinc X0.here hx rfl (hb hby d22_55) rfl (l' := #[vi x3, vi ((((1 : Int32) + (16 : Int32)) + (8 : Int32)) + (4 : Int32))]) rfl k) ?_
     show Aq s₁ 58 #[vi x3, vi ((((1 : Int32) + (16 : Int32)) + (8 : Int32)) + (4 : Int32))] []
     refine iN X0 hx hby d22_58 rfl ?_
     refine iC X0 hx hby d22_59 (z := 4) rfl ?_
     refine iU X0 hx hby d22_60 ?_
     generalize dx4 : ((x3.toUInt32 >>> ((4 : Int32) &&& 31).toUInt32).toInt32) = x4
     show Aq s₁ 61 #[vi x3, vi ((((1 : Int32) + (16 : Int32)) + (8 : Int32)) + (4 : Int32))] [(.int x4)]
     refine sN X0 hx hby d22_61 (l' := #[vi x4, vi ((((1 : Int32) + (16 : Int32)) + (8 : Int32)) + (4 : Int32))]) rfl ?_
     refine iN X0 hx hby d22_62 rfl ?_
     refine iC X0 hx hby d22_63 (z := 4) rfl ?_
     by_cases c5 : (4 : Int32) < x4
     ·refine cF X0 hx hby d22_64 (tlt c5).2.2.2 ?_
      refine dS (fun t k => XS.iinc X0.here hx rfl (hb hby d22_67) rfl (l' := #[vi x4, vi (((((1 : Int32) + (16 : Int32)) + (8 : Int32)) + (4 : Int32)) + (2 : Int32))]) rfl k) ?_
      show Aq s₁ 70 #[vi x4, vi (((((1 : Int32) + (16 : Int32)) + (8 : Int32)) + (4 : Int32)) + (2 : Int32))] []
      refine iN X0 hx hby d22_70 rfl ?_
      refine iC X0 hx hby d22_71 (z := 2) rfl ?_
      refine iU X0 hx hby d22_72 ?_
      generalize dx5 : ((x4.toUInt32 >>> ((2 : Int32) &&& 31).toUInt32).toInt32) = x5
      show Aq s₁ 73 #[vi x4, vi (((((1 : Int32) + (16 : Int32)) + (8 : Int32)) + (4 : Int32)) + (2 : Int32))] [(.int x5)]
      refine sN X0 hx hby d22_73 (l' := #[vi x5, vi (((((1 : Int32) + (16 : Int32)) + (8 : Int32)) + (4 : Int32)) + (2 : Int32))]) rfl ?_
      refine iN X0 hx hby d22_74 rfl ?_
      refine iN X0 hx hby d22_75 rfl ?_
      refine iC X0 hx hby d22_76 (z := 1) rfl ?_
      refine iU X0 hx hby d22_77 ?_
      refine iA X0 hx hby d22_78 ?_
      subst dx5 dx4 dx3 dx2 dx1
      exact Done.int X0 hx hlk hret (hb hby d22_79) (by decide) (by decide) ⟨by unfold F22; rw [if_pos c1, if_pos c2, if_pos c3, if_pos c4, if_pos c5], N0, e0⟩
     ·refine cY X0 hx hby d22_64 (pc' := 74) (flt c5).2.2.2 (H := ?_)
      refine iN X0 hx hby d22_74 rfl ?_
      refine iN X0 hx hby d22_75 rfl ?_
      refine iC X0 hx hby d22_76 (z := 1) rfl ?_
      refine iU X0 hx hby d22_77 ?_
      refine iA X0 hx hby d22_78 ?_
      subst dx4 dx3 dx2 dx1
      exact Done.int X0 hx hlk hret (hb hby d22_79) (by decide) (by decide) ⟨by unfold F22; rw [if_pos c1, if_pos c2, if_pos c3, if_pos c4, if_neg c5], N0, e0⟩
    ·refine cY X0 hx hby d22_52 (pc' := 62) (flt c4).2.2.2 (H := ?_)
     refine iN X0 hx hby d22_62 rfl ?_
     refine iC X0 hx hby d22_63 (z := 4) rfl ?_
     by_cases c6 : (4 : Int32) < x3
     ·refine cF X0 hx hby d22_64 (tlt c6).2.2.2 ?_
      refine dS (fun t k => XS.iinc X0.here hx rfl (hb hby d22_67) rfl (l' := #[vi x3, vi ((((1 : Int32) + (16 : Int32)) + (8 : Int32)) + (2 : Int32))]) rfl k) ?_
      show Aq s₁ 70 #[vi x3, vi ((((1 : Int32) + (16 : Int32)) + (8 : Int32)) + (2 : Int32))] []
      refine iN X0 hx hby d22_70 rfl ?_
      refine iC X0 hx hby d22_71 (z := 2) rfl ?_
      refine iU X0 hx hby d22_72 ?_
      generalize dx6 : ((x3.toUInt32 >>> ((2 : Int32) &&& 31).toUInt32).toInt32) = x6
      show Aq s₁ 73 #[vi x3, vi ((((1 : Int32) + (16 : Int32)) + (8 : Int32)) + (2 : Int32))] [(.int x6)]
      refine sN X0 hx hby d22_73 (l' := #[vi x6, vi ((((1 : Int32) + (16 : Int32)) + (8 : Int32)) + (2 : Int32))]) rfl ?_
      refine iN X0 hx hby d22_74 rfl ?_
      refine iN X0 hx hby d22_75 rfl ?_
      refine iC X0 hx hby d22_76 (z := 1) rfl ?_
      refine iU X0 hx hby d22_77 ?_
      refine iA X0 hx hby d22_78 ?_
      subst dx6 dx3 dx2 dx1
      exact Done.int X0 hx hlk hret (hb hby d22_79) (by decide) (by decide) ⟨by unfold F22; rw [if_pos c1, if_pos c2, if_pos c3, if_neg c4, if_pos c6], N0, e0⟩
     ·refine cY X0 hx hby d22_64 (pc' := 74) (flt c6).2.2.2 (H := ?_)
      refine iN X0 hx hby d22_74 rfl ?_
      refine iN X0 hx hby d22_75 rfl ?_
      refine iC X0 hx hby d22_76 (z := 1) rfl ?_
      refine iU X0 hx hby d22_77 ?_
      refine iA X0 hx hby d22_78 ?_
      subst dx3 dx2 dx1
      exact Done.int X0 hx hlk hret (hb hby d22_79) (by decide) (by decide) ⟨by unfold F22; rw [if_pos c1, if_pos c2, if_pos c3, if_neg c4, if_neg c6], N0, e0⟩
   ·refine cY X0 hx hby d22_38 (pc' := 49) (flt c3).2.2.2 (H := ?_)
    refine iN X0 hx hby d22_49 rfl ?_
    refine iB X0 hx hby d22_50 (z := 16) rfl ?_
    by_cases c7 : (16 : Int32) < x2
    ·refine cF X0 hx hby d22_52 (tlt c7).2.2.2 ?_
     refine dS (fun t k => XS.iinc X0.here hx rfl (hb hby d22_55) rfl (l' := #[vi x2, vi (((1 : Int32) + (16 : Int32)) + (4 : Int32))]) rfl k) ?_
     show Aq s₁ 58 #[vi x2, vi (((1 : Int32) + (16 : Int32)) + (4 : Int32))] []
     refine iN X0 hx hby d22_58 rfl ?_
     refine iC X0 hx hby d22_59 (z := 4) rfl ?_
     refine iU X0 hx hby d22_60 ?_
     generalize dx7 : ((x2.toUInt32 >>> ((4 : Int32) &&& 31).toUInt32).toInt32) = x7
     show Aq s₁ 61 #[vi x2, vi (((1 : Int32) + (16 : Int32)) + (4 : Int32))] [(.int x7)]
     refine sN X0 hx hby d22_61 (l' := #[vi x7, vi (((1 : Int32) + (16 : Int32)) + (4 : Int32))]) rfl ?_
     refine iN X0 hx hby d22_62 rfl ?_
     refine iC X0 hx hby d22_63 (z := 4) rfl ?_
     by_cases c8 : (4 : Int32) < x7
     ·refine cF X0 hx hby d22_64 (tlt c8).2.2.2 ?_
      refine dS (fun t k => XS.iinc X0.here hx rfl (hb hby d22_67) rfl (l' := #[vi x7, vi ((((1 : Int32) + (16 : Int32)) + (4 : Int32)) + (2 : Int32))]) rfl k) ?_
      show Aq s₁ 70 #[vi x7, vi ((((1 : Int32) + (16 : Int32)) + (4 : Int32)) + (2 : Int32))] []
      refine iN X0 hx hby d22_70 rfl ?_
      refine iC X0 hx hby d22_71 (z := 2) rfl ?_
      refine iU X0 hx hby d22_72 ?_
      generalize dx8 : ((x7.toUInt32 >>> ((2 : Int32) &&& 31).toUInt32).toInt32) = x8
      show Aq s₁ 73 #[vi x7, vi ((((1 : Int32) + (16 : Int32)) + (4 : Int32)) + (2 : Int32))] [(.int x8)]
      refine sN X0 hx hby d22_73 (l' := #[vi x8, vi ((((1 : Int32) + (16 : Int32)) + (4 : Int32)) + (2 : Int32))]) rfl ?_
      refine iN X0 hx hby d22_74 rfl ?_
      refine iN X0 hx hby d22_75 rfl ?_
      refine iC X0 hx hby d22_76 (z := 1) rfl ?_
      refine iU X0 hx hby d22_77 ?_
      refine iA X0 hx hby d22_78 ?_
      subst dx8 dx7 dx2 dx1
      exact Done.int X0 hx hlk hret (hb hby d22_79) (by decide) (by decide) ⟨by unfold F22; rw [if_pos c1, if_pos c2, if_neg c3, if_pos c7, if_pos c8], N0, e0⟩
     ·refine cY X0 hx hby d22_64 (pc' := 74) (flt c8).2.2.2 (H := ?_)
      refine iN X0 hx hby d22_74 rfl ?_
      refine iN X0 hx hby d22_75 rfl ?_
      refine iC X0 hx hby d22_76 (z := 1) rfl ?_
      refine iU X0 hx hby d22_77 ?_
      refine iA X0 hx hby d22_78 ?_
      subst dx7 dx2 dx1
      exact Done.int X0 hx hlk hret (hb hby d22_79) (by decide) (by decide) ⟨by unfold F22; rw [if_pos c1, if_pos c2, if_neg c3, if_pos c7, if_neg c8], N0, e0⟩
    ·refine cY X0 hx hby d22_52 (pc' := 62) (flt c7).2.2.2 (H := ?_)
     refine iN X0 hx hby d22_62 rfl ?_
     refine iC X0 hx hby d22_63 (z := 4) rfl ?_
     by_cases c9 : (4 : Int32) < x2
     ·refine cF X0 hx hby d22_64 (tlt c9).2.2.2 ?_
      refine dS (fun t k => XS.iinc X0.here hx rfl (hb hby d22_67) rfl (l' := #[vi x2, vi (((1 : Int32) + (16 : Int32)) + (2 : Int32))]) rfl k) ?_
      show Aq s₁ 70 #[vi x2, vi (((1 : Int32) + (16 : Int32)) + (2 : Int32))] []
      refine iN X0 hx hby d22_70 rfl ?_
      refine iC X0 hx hby d22_71 (z := 2) rfl ?_
      refine iU X0 hx hby d22_72 ?_
      generalize dx9 : ((x2.toUInt32 >>> ((2 : Int32) &&& 31).toUInt32).toInt32) = x9
      show Aq s₁ 73 #[vi x2, vi (((1 : Int32) + (16 : Int32)) + (2 : Int32))] [(.int x9)]
      refine sN X0 hx hby d22_73 (l' := #[vi x9, vi (((1 : Int32) + (16 : Int32)) + (2 : Int32))]) rfl ?_
      refine iN X0 hx hby d22_74 rfl ?_
      refine iN X0 hx hby d22_75 rfl ?_
      refine iC X0 hx hby d22_76 (z := 1) rfl ?_
      refine iU X0 hx hby d22_77 ?_
      refine iA X0 hx hby d22_78 ?_
      subst dx9 dx2 dx1
      exact Done.int X0 hx hlk hret (hb hby d22_79) (by decide) (by decide) ⟨by unfold F22; rw [if_pos c1, if_pos c2, if_neg c3, if_neg c7, if_pos c9], N0, e0⟩
     ·refine cY X0 hx hby d22_64 (pc' := 74) (flt c9).2.2.2 (H := ?_)
      refine iN X0 hx hby d22_74 rfl ?_
      refine iN X0 hx hby d22_75 rfl ?_
      refine iC X0 hx hby d22_76 (z := 1) rfl ?_
      refine iU X0 hx hby d22_77 ?_
      refine iA X0 hx hby d22_78 ?_
      subst dx2 dx1
      exact Done.int X0 hx hlk hret (hb hby d22_79) (by decide) (by decide) ⟨by unfold F22; rw [if_pos c1, if_pos c2, if_neg c3, if_neg c7, if_neg c9], N0, e0⟩
  ·refine cY X0 hx hby d22_23 (pc' := 34) (flt c2).2.2.2 (H := ?_)
   refine iN X0 hx hby d22_34 rfl ?_
   refine dS (fun t k => XS.sipush X0.here hx rfl (hb hby d22_35) k) ?_
   show Aq s₁ 38 #[vi x1, vi 1] [(.int 256), (.int x1)]
   by_cases c10 : (256 : Int32) < x1
   ·refine cF X0 hx hby d22_38 (tlt c10).2.2.2 ?_
    refine dS (fun t k => XS.iinc X0.here hx rfl (hb hby d22_41) rfl (l' := #[vi x1, vi ((1 : Int32) + (8 : Int32))]) rfl k) ?_
    show Aq s₁ 44 #[vi x1, vi ((1 : Int32) + (8 : Int32))] []
    refine iN X0 hx hby d22_44 rfl ?_
    refine iB X0 hx hby d22_45 (z := 8) rfl ?_
    refine iU X0 hx hby d22_47 ?_
    generalize dx10 : ((x1.toUInt32 >>> ((8 : Int32) &&& 31).toUInt32).toInt32) = x10
    show Aq s₁ 48 #[vi x1, vi ((1 : Int32) + (8 : Int32))] [(.int x10)]
    refine sN X0 hx hby d22_48 (l' := #[vi x10, vi ((1 : Int32) + (8 : Int32))]) rfl ?_
    refine iN X0 hx hby d22_49 rfl ?_
    refine iB X0 hx hby d22_50 (z := 16) rfl ?_
    by_cases c11 : (16 : Int32) < x10
    ·refine cF X0 hx hby d22_52 (tlt c11).2.2.2 ?_
     refine dS (fun t k => XS.iinc X0.here hx rfl (hb hby d22_55) rfl (l' := #[vi x10, vi (((1 : Int32) + (8 : Int32)) + (4 : Int32))]) rfl k) ?_
     show Aq s₁ 58 #[vi x10, vi (((1 : Int32) + (8 : Int32)) + (4 : Int32))] []
     refine iN X0 hx hby d22_58 rfl ?_
     refine iC X0 hx hby d22_59 (z := 4) rfl ?_
     refine iU X0 hx hby d22_60 ?_
     generalize dx11 : ((x10.toUInt32 >>> ((4 : Int32) &&& 31).toUInt32).toInt32) = x11
     show Aq s₁ 61 #[vi x10, vi (((1 : Int32) + (8 : Int32)) + (4 : Int32))] [(.int x11)]
     refine sN X0 hx hby d22_61 (l' := #[vi x11, vi (((1 : Int32) + (8 : Int32)) + (4 : Int32))]) rfl ?_
     refine iN X0 hx hby d22_62 rfl ?_
     refine iC X0 hx hby d22_63 (z := 4) rfl ?_
     by_cases c12 : (4 : Int32) < x11
     ·refine cF X0 hx hby d22_64 (tlt c12).2.2.2 ?_
      refine dS (fun t k => XS.iinc X0.here hx rfl (hb hby d22_67) rfl (l' := #[vi x11, vi ((((1 : Int32) + (8 : Int32)) + (4 : Int32)) + (2 : Int32))]) rfl k) ?_
      show Aq s₁ 70 #[vi x11, vi ((((1 : Int32) + (8 : Int32)) + (4 : Int32)) + (2 : Int32))] []
      refine iN X0 hx hby d22_70 rfl ?_
      refine iC X0 hx hby d22_71 (z := 2) rfl ?_
      refine iU X0 hx hby d22_72 ?_
      generalize dx12 : ((x11.toUInt32 >>> ((2 : Int32) &&& 31).toUInt32).toInt32) = x12
      show Aq s₁ 73 #[vi x11, vi ((((1 : Int32) + (8 : Int32)) + (4 : Int32)) + (2 : Int32))] [(.int x12)]
      refine sN X0 hx hby d22_73 (l' := #[vi x12, vi ((((1 : Int32) + (8 : Int32)) + (4 : Int32)) + (2 : Int32))]) rfl ?_
      refine iN X0 hx hby d22_74 rfl ?_
      refine iN X0 hx hby d22_75 rfl ?_
      refine iC X0 hx hby d22_76 (z := 1) rfl ?_
      refine iU X0 hx hby d22_77 ?_
      refine iA X0 hx hby d22_78 ?_
      subst dx12 dx11 dx10 dx1
      exact Done.int X0 hx hlk hret (hb hby d22_79) (by decide) (by decide) ⟨by unfold F22; rw [if_pos c1, if_neg c2, if_pos c10, if_pos c11, if_pos c12], N0, e0⟩
     ·refine cY X0 hx hby d22_64 (pc' := 74) (flt c12).2.2.2 (H := ?_)
      refine iN X0 hx hby d22_74 rfl ?_
      refine iN X0 hx hby d22_75 rfl ?_
      refine iC X0 hx hby d22_76 (z := 1) rfl ?_
      refine iU X0 hx hby d22_77 ?_
      refine iA X0 hx hby d22_78 ?_
      subst dx11 dx10 dx1
      exact Done.int X0 hx hlk hret (hb hby d22_79) (by decide) (by decide) ⟨by unfold F22; rw [if_pos c1, if_neg c2, if_pos c10, if_pos c11, if_neg c12], N0, e0⟩
    ·refine cY X0 hx hby d22_52 (pc' := 62) (flt c11).2.2.2 (H := ?_)
     refine iN X0 hx hby d22_62 rfl ?_
     refine iC X0 hx hby d22_63 (z := 4) rfl ?_
     by_cases c13 : (4 : Int32) < x10
     ·refine cF X0 hx hby d22_64 (tlt c13).2.2.2 ?_
      refine dS (fun t k => XS.iinc X0.here hx rfl (hb hby d22_67) rfl (l' := #[vi x10, vi (((1 : Int32) + (8 : Int32)) + (2 : Int32))]) rfl k) ?_
      show Aq s₁ 70 #[vi x10, vi (((1 : Int32) + (8 : Int32)) + (2 : Int32))] []
      refine iN X0 hx hby d22_70 rfl ?_
      refine iC X0 hx hby d22_71 (z := 2) rfl ?_
      refine iU X0 hx hby d22_72 ?_
      generalize dx13 : ((x10.toUInt32 >>> ((2 : Int32) &&& 31).toUInt32).toInt32) = x13
      show Aq s₁ 73 #[vi x10, vi (((1 : Int32) + (8 : Int32)) + (2 : Int32))] [(.int x13)]
      refine sN X0 hx hby d22_73 (l' := #[vi x13, vi (((1 : Int32) + (8 : Int32)) + (2 : Int32))]) rfl ?_
      refine iN X0 hx hby d22_74 rfl ?_
      refine iN X0 hx hby d22_75 rfl ?_
      refine iC X0 hx hby d22_76 (z := 1) rfl ?_
      refine iU X0 hx hby d22_77 ?_
      refine iA X0 hx hby d22_78 ?_
      subst dx13 dx10 dx1
      exact Done.int X0 hx hlk hret (hb hby d22_79) (by decide) (by decide) ⟨by unfold F22; rw [if_pos c1, if_neg c2, if_pos c10, if_neg c11, if_pos c13], N0, e0⟩
     ·refine cY X0 hx hby d22_64 (pc' := 74) (flt c13).2.2.2 (H := ?_)
      refine iN X0 hx hby d22_74 rfl ?_
      refine iN X0 hx hby d22_75 rfl ?_
      refine iC X0 hx hby d22_76 (z := 1) rfl ?_
      refine iU X0 hx hby d22_77 ?_
      refine iA X0 hx hby d22_78 ?_
      subst dx10 dx1
      exact Done.int X0 hx hlk hret (hb hby d22_79) (by decide) (by decide) ⟨by unfold F22; rw [if_pos c1, if_neg c2, if_pos c10, if_neg c11, if_neg c13], N0, e0⟩
   ·refine cY X0 hx hby d22_38 (pc' := 49) (flt c10).2.2.2 (H := ?_)
    refine iN X0 hx hby d22_49 rfl ?_
    refine iB X0 hx hby d22_50 (z := 16) rfl ?_
    by_cases c14 : (16 : Int32) < x1
    ·refine cF X0 hx hby d22_52 (tlt c14).2.2.2 ?_
     refine dS (fun t k => XS.iinc X0.here hx rfl (hb hby d22_55) rfl (l' := #[vi x1, vi ((1 : Int32) + (4 : Int32))]) rfl k) ?_
     show Aq s₁ 58 #[vi x1, vi ((1 : Int32) + (4 : Int32))] []
     refine iN X0 hx hby d22_58 rfl ?_
     refine iC X0 hx hby d22_59 (z := 4) rfl ?_
     refine iU X0 hx hby d22_60 ?_
     generalize dx14 : ((x1.toUInt32 >>> ((4 : Int32) &&& 31).toUInt32).toInt32) = x14
     show Aq s₁ 61 #[vi x1, vi ((1 : Int32) + (4 : Int32))] [(.int x14)]
     refine sN X0 hx hby d22_61 (l' := #[vi x14, vi ((1 : Int32) + (4 : Int32))]) rfl ?_
     refine iN X0 hx hby d22_62 rfl ?_
     refine iC X0 hx hby d22_63 (z := 4) rfl ?_
     by_cases c15 : (4 : Int32) < x14
     ·refine cF X0 hx hby d22_64 (tlt c15).2.2.2 ?_
      refine dS (fun t k => XS.iinc X0.here hx rfl (hb hby d22_67) rfl (l' := #[vi x14, vi (((1 : Int32) + (4 : Int32)) + (2 : Int32))]) rfl k) ?_
      show Aq s₁ 70 #[vi x14, vi (((1 : Int32) + (4 : Int32)) + (2 : Int32))] []
      refine iN X0 hx hby d22_70 rfl ?_
      refine iC X0 hx hby d22_71 (z := 2) rfl ?_
      refine iU X0 hx hby d22_72 ?_
      generalize dx15 : ((x14.toUInt32 >>> ((2 : Int32) &&& 31).toUInt32).toInt32) = x15
      show Aq s₁ 73 #[vi x14, vi (((1 : Int32) + (4 : Int32)) + (2 : Int32))] [(.int x15)]
      refine sN X0 hx hby d22_73 (l' := #[vi x15, vi (((1 : Int32) + (4 : Int32)) + (2 : Int32))]) rfl ?_
      refine iN X0 hx hby d22_74 rfl ?_
      refine iN X0 hx hby d22_75 rfl ?_
      refine iC X0 hx hby d22_76 (z := 1) rfl ?_
      refine iU X0 hx hby d22_77 ?_
      refine iA X0 hx hby d22_78 ?_
      subst dx15 dx14 dx1
      exact Done.int X0 hx hlk hret (hb hby d22_79) (by decide) (by decide) ⟨by unfold F22; rw [if_pos c1, if_neg c2, if_neg c10, if_pos c14, if_pos c15], N0, e0⟩
     ·refine cY X0 hx hby d22_64 (pc' := 74) (flt c15).2.2.2 (H := ?_)
      refine iN X0 hx hby d22_74 rfl ?_
      refine iN X0 hx hby d22_75 rfl ?_
      refine iC X0 hx hby d22_76 (z := 1) rfl ?_
      refine iU X0 hx hby d22_77 ?_
      refine iA X0 hx hby d22_78 ?_
      subst dx14 dx1
      exact Done.int X0 hx hlk hret (hb hby d22_79) (by decide) (by decide) ⟨by unfold F22; rw [if_pos c1, if_neg c2, if_neg c10, if_pos c14, if_neg c15], N0, e0⟩
    ·refine cY X0 hx hby d22_52 (pc' := 62) (flt c14).2.2.2 (H := ?_)
     refine iN X0 hx hby d22_62 rfl ?_
     refine iC X0 hx hby d22_63 (z := 4) rfl ?_
     by_cases c16 : (4 : Int32) < x1
     ·refine cF X0 hx hby d22_64 (tlt c16).2.2.2 ?_
      refine dS (fun t k => XS.iinc X0.here hx rfl (hb hby d22_67) rfl (l' := #[vi x1, vi ((1 : Int32) + (2 : Int32))]) rfl k) ?_
      show Aq s₁ 70 #[vi x1, vi ((1 : Int32) + (2 : Int32))] []
      refine iN X0 hx hby d22_70 rfl ?_
      refine iC X0 hx hby d22_71 (z := 2) rfl ?_
      refine iU X0 hx hby d22_72 ?_
      generalize dx16 : ((x1.toUInt32 >>> ((2 : Int32) &&& 31).toUInt32).toInt32) = x16
      show Aq s₁ 73 #[vi x1, vi ((1 : Int32) + (2 : Int32))] [(.int x16)]
      refine sN X0 hx hby d22_73 (l' := #[vi x16, vi ((1 : Int32) + (2 : Int32))]) rfl ?_
      refine iN X0 hx hby d22_74 rfl ?_
      refine iN X0 hx hby d22_75 rfl ?_
      refine iC X0 hx hby d22_76 (z := 1) rfl ?_
      refine iU X0 hx hby d22_77 ?_
      refine iA X0 hx hby d22_78 ?_
      subst dx16 dx1
      exact Done.int X0 hx hlk hret (hb hby d22_79) (by decide) (by decide) ⟨by unfold F22; rw [if_pos c1, if_neg c2, if_neg c10, if_neg c14, if_pos c16], N0, e0⟩
     ·refine cY X0 hx hby d22_64 (pc' := 74) (flt c16).2.2.2 (H := ?_)
      refine iN X0 hx hby d22_74 rfl ?_
      refine iN X0 hx hby d22_75 rfl ?_
      refine iC X0 hx hby d22_76 (z := 1) rfl ?_
      refine iU X0 hx hby d22_77 ?_
      refine iA X0 hx hby d22_78 ?_
      subst dx1
      exact Done.int X0 hx hlk hret (hb hby d22_79) (by decide) (by decide) ⟨by unfold F22; rw [if_pos c1, if_neg c2, if_neg c10, if_neg c14, if_neg c16], N0, e0⟩
 ·refine iF X0 hx hby d22_9 ((if0 _ _).trans (flt c1).2.2.1) ?_
  refine iN X0 hx hby d22_12 rfl ?_
  refine iB X0 hx hby d22_13 (z := 32) rfl ?_
  refine dS (fun t k => XS.iand X0.here hx rfl (hb hby d22_15) rfl k) ?_
  show Aq s₁ 16 #[vi x1, vu] [(.int (x1 &&& (32 : Int32)))]
  subst dx1
  exact Done.int X0 hx hlk hret (hb hby d22_16) (by decide) (by decide) ⟨by unfold F22; rw [if_neg c1], N0, e0⟩
theorem d25_0 : dq cd1 0 (.iload_n 0) 1 := by decide +kernel
theorem d25_1 : dq cd1 1 (.ifCond .gt 14) 3 := by decide +kernel
theorem d25_4 : dq cd1 4 (.iload_n 0) 1 := by decide +kernel
theorem d25_5 : dq cd1 5 (.ifCond .ne 8) 3 := by decide +kernel
theorem d25_8 : dq cd1 8 (.bipush 32) 2 := by decide +kernel
theorem d25_10 : dq cd1 10 (.goto 4) 3 := by decide +kernel
theorem d25_13 : dq cd1 13 (.iconst 0) 1 := by decide +kernel
theorem d25_14 : dq cd1 14 .ireturn 1 := by decide +kernel
theorem d25_15 : dq cd1 15 (.bipush 31) 2 := by decide +kernel
theorem d25_17 : dq cd1 17 (.istore_n 1) 1 := by decide +kernel
theorem d25_18 : dq cd1 18 (.iload_n 0) 1 := by decide +kernel
theorem d25_19 : dq cd1 19 (.ldc_w 264) 3 := by decide +kernel
theorem d25_22 : dq cd1 22 (.if_icmp .lt 11) 3 := by decide +kernel
theorem d25_25 : dq cd1 25 (.iinc 1 (-16)) 3 := by decide +kernel
theorem d25_28 : dq cd1 28 (.iload_n 0) 1 := by decide +kernel
theorem d25_29 : dq cd1 29 (.bipush 16) 2 := by decide +kernel
theorem d25_31 : dq cd1 31 .iushr 1 := by decide +kernel
theorem d25_32 : dq cd1 32 (.istore_n 0) 1 := by decide +kernel
theorem d25_33 : dq cd1 33 (.iload_n 0) 1 := by decide +kernel
theorem d25_34 : dq cd1 34 (.sipush 256) 3 := by decide +kernel
theorem d25_37 : dq cd1 37 (.if_icmp .lt 11) 3 := by decide +kernel
theorem d25_40 : dq cd1 40 (.iinc 1 (-8)) 3 := by decide +kernel
theorem d25_43 : dq cd1 43 (.iload_n 0) 1 := by decide +kernel
theorem d25_44 : dq cd1 44 (.bipush 8) 2 := by decide +kernel
theorem d25_46 : dq cd1 46 .iushr 1 := by decide +kernel
theorem d25_47 : dq cd1 47 (.istore_n 0) 1 := by decide +kernel
theorem d25_48 : dq cd1 48 (.iload_n 0) 1 := by decide +kernel
theorem d25_49 : dq cd1 49 (.bipush 16) 2 := by decide +kernel
theorem d25_51 : dq cd1 51 (.if_icmp .lt 10) 3 := by decide +kernel
theorem d25_54 : dq cd1 54 (.iinc 1 (-4)) 3 := by decide +kernel
theorem d25_57 : dq cd1 57 (.iload_n 0) 1 := by decide +kernel
theorem d25_58 : dq cd1 58 (.iconst 4) 1 := by decide +kernel
theorem d25_59 : dq cd1 59 .iushr 1 := by decide +kernel
theorem d25_60 : dq cd1 60 (.istore_n 0) 1 := by decide +kernel
theorem d25_61 : dq cd1 61 (.iload_n 0) 1 := by decide +kernel
theorem d25_62 : dq cd1 62 (.iconst 4) 1 := by decide +kernel
theorem d25_63 : dq cd1 63 (.if_icmp .lt 10) 3 := by decide +kernel
theorem d25_66 : dq cd1 66 (.iinc 1 (-2)) 3 := by decide +kernel
theorem d25_69 : dq cd1 69 (.iload_n 0) 1 := by decide +kernel
theorem d25_70 : dq cd1 70 (.iconst 2) 1 := by decide +kernel
theorem d25_71 : dq cd1 71 .iushr 1 := by decide +kernel
theorem d25_72 : dq cd1 72 (.istore_n 0) 1 := by decide +kernel
theorem d25_73 : dq cd1 73 (.iload_n 1) 1 := by decide +kernel
theorem d25_74 : dq cd1 74 (.iload_n 0) 1 := by decide +kernel
theorem d25_75 : dq cd1 75 (.iconst 1) 1 := by decide +kernel
theorem d25_76 : dq cd1 76 .iushr 1 := by decide +kernel
theorem d25_77 : dq cd1 77 .isub 1 := by decide +kernel
theorem d25_78 : dq cd1 78 .ireturn 1 := by decide +kernel
def F25 (p1 : Int32) : Int32 := (if (0 : Int32) < p1 then (if p1 < (65536 : Int32) then (if p1 < (256 : Int32) then (if p1 < (16 : Int32) then (if p1 < (4 : Int32) then ((31 : Int32) - ((p1.toUInt32 >>> ((1 : Int32) &&& 31).toUInt32).toInt32))
     else (((31 : Int32) + (-2 : Int32)) - ((((p1.toUInt32 >>> ((2 : Int32) &&& 31).toUInt32).toInt32).toUInt32 >>> ((1 : Int32) &&& 31).toUInt32).toInt32)))
    else (if ((p1.toUInt32 >>> ((4 : Int32) &&& 31).toUInt32).toInt32) < (4 : Int32) then (((31 : Int32) + (-4 : Int32)) - ((((p1.toUInt32 >>> ((4 : Int32) &&& 31).toUInt32).toInt32).toUInt32 >>> ((1 : Int32) &&& 31).toUInt32).toInt32))
     else ((((31 : Int32) + (-4 : Int32)) + (-2 : Int32)) - ((((((p1.toUInt32 >>> ((4 : Int32) &&& 31).toUInt32).toInt32).toUInt32 >>> ((2 : Int32) &&& 31).toUInt32).toInt32).toUInt32 >>> ((1 : Int32) &&& 31).toUInt32).toInt32))))
   else (if ((p1.toUInt32 >>> ((8 : Int32) &&& 31).toUInt32).toInt32) < (16 : Int32) then (if ((p1.toUInt32 >>> ((8 : Int32) &&& 31).toUInt32).toInt32) < (4 : Int32) then (((31 : Int32) + (-8 : Int32)) - ((((p1.toUInt32 >>> ((8 : Int32) &&& 31).toUInt32).toInt32).toUInt32 >>> ((1 : Int32) &&& 31).toUInt32).toInt32))
     else ((((31 : Int32) + (-8 : Int32)) + (-2 : Int32)) - ((((((p1.toUInt32 >>> ((8 : Int32) &&& 31).toUInt32).toInt32).toUInt32 >>> ((2 : Int32) &&& 31).toUInt32).toInt32).toUInt32 >>> ((1 : Int32) &&& 31).toUInt32).toInt32)))
    else (if ((((p1.toUInt32 >>> ((8 : Int32) &&& 31).toUInt32).toInt32).toUInt32 >>> ((4 : Int32) &&& 31).toUInt32).toInt32) < (4 : Int32) then ((((31 : Int32) + (-8 : Int32)) + (-4 : Int32)) - ((((((p1.toUInt32 >>> ((8 : Int32) &&& 31).toUInt32).toInt32).toUInt32 >>> ((4 : Int32) &&& 31).toUInt32).toInt32).toUInt32 >>> ((1 : Int32) &&& 31).toUInt32).toInt32))
     else (((((31 : Int32) + (-8 : Int32)) + (-4 : Int32)) + (-2 : Int32)) - ((((((((p1.toUInt32 >>> ((8 : Int32) &&& 31).toUInt32).toInt32).toUInt32 >>> ((4 : Int32) &&& 31).toUInt32).toInt32).toUInt32 >>> ((2 : Int32) &&& 31).toUInt32).toInt32).toUInt32 >>> ((1 : Int32) &&& 31).toUInt32).toInt32)))))
  else (if ((p1.toUInt32 >>> ((16 : Int32) &&& 31).toUInt32).toInt32) < (256 : Int32) then (if ((p1.toUInt32 >>> ((16 : Int32) &&& 31).toUInt32).toInt32) < (16 : Int32) then (if ((p1.toUInt32 >>> ((16 : Int32) &&& 31).toUInt32).toInt32) < (4 : Int32) then (((31 : Int32) + (-16 : Int32)) - ((((p1.toUInt32 >>> ((16 : Int32) &&& 31).toUInt32).toInt32).toUInt32 >>> ((1 : Int32) &&& 31).toUInt32).toInt32))
     else ((((31 : Int32) + (-16 : Int32)) + (-2 : Int32)) - ((((((p1.toUInt32 >>> ((16 : Int32) &&& 31).toUInt32).toInt32).toUInt32 >>> ((2 : Int32) &&& 31).toUInt32).toInt32).toUInt32 >>> ((1 : Int32) &&& 31).toUInt32).toInt32)))
    else (if ((((p1.toUInt32 >>> ((16 : Int32) &&& 31).toUInt32).toInt32).toUInt32 >>> ((4 : Int32) &&& 31).toUInt32).toInt32) < (4 : Int32) then ((((31 : Int32) + (-16 : Int32)) + (-4 : Int32)) - ((((((p1.toUInt32 >>> ((16 : Int32) &&& 31).toUInt32).toInt32).toUInt32 >>> ((4 : Int32) &&& 31).toUInt32).toInt32).toUInt32 >>> ((1 : Int32) &&& 31).toUInt32).toInt32))
     else (((((31 : Int32) + (-16 : Int32)) + (-4 : Int32)) + (-2 : Int32)) - ((((((((p1.toUInt32 >>> ((16 : Int32) &&& 31).toUInt32).toInt32).toUInt32 >>> ((4 : Int32) &&& 31).toUInt32).toInt32).toUInt32 >>> ((2 : Int32) &&& 31).toUInt32).toInt32).toUInt32 >>> ((1 : Int32) &&& 31).toUInt32).toInt32))))
   else (if ((((p1.toUInt32 >>> ((16 : Int32) &&& 31).toUInt32).toInt32).toUInt32 >>> ((8 : Int32) &&& 31).toUInt32).toInt32) < (16 : Int32) then (if ((((p1.toUInt32 >>> ((16 : Int32) &&& 31).toUInt32).toInt32).toUInt32 >>> ((8 : Int32) &&& 31).toUInt32).toInt32) < (4 : Int32) then ((((31 : Int32) + (-16 : Int32)) + (-8 : Int32)) - ((((((p1.toUInt32 >>> ((16 : Int32) &&& 31).toUInt32).toInt32).toUInt32 >>> ((8 : Int32) &&& 31).toUInt32).toInt32).toUInt32 >>> ((1 : Int32) &&& 31).toUInt32).toInt32))
     else (((((31 : Int32) + (-16 : Int32)) + (-8 : Int32)) + (-2 : Int32)) - ((((((((p1.toUInt32 >>> ((16 : Int32) &&& 31).toUInt32).toInt32).toUInt32 >>> ((8 : Int32) &&& 31).toUInt32).toInt32).toUInt32 >>> ((2 : Int32) &&& 31).toUInt32).toInt32).toUInt32 >>> ((1 : Int32) &&& 31).toUInt32).toInt32)))
    else (if ((((((p1.toUInt32 >>> ((16 : Int32) &&& 31).toUInt32).toInt32).toUInt32 >>> ((8 : Int32) &&& 31).toUInt32).toInt32).toUInt32 >>> ((4 : Int32) &&& 31).toUInt32).toInt32) < (4 : Int32) then (((((31 : Int32) + (-16 : Int32)) + (-8 : Int32)) + (-4 : Int32)) - ((((((((p1.toUInt32 >>> ((16 : Int32) &&& 31).toUInt32).toInt32).toUInt32 >>> ((8 : Int32) &&& 31).toUInt32).toInt32).toUInt32 >>> ((4 : Int32) &&& 31).toUInt32).toInt32).toUInt32 >>> ((1 : Int32) &&& 31).toUInt32).toInt32))
     else ((((((31 : Int32) + (-16 : Int32)) + (-8 : Int32)) + (-4 : Int32)) + (-2 : Int32)) - ((((((((((p1.toUInt32 >>> ((16 : Int32) &&& 31).toUInt32).toInt32).toUInt32 >>> ((8 : Int32) &&& 31).toUInt32).toInt32).toUInt32 >>> ((4 : Int32) &&& 31).toUInt32).toInt32).toUInt32 >>> ((2 : Int32) &&& 31).toUInt32).toInt32).toUInt32 >>> ((1 : Int32) &&& 31).toUInt32).toInt32))))))
 else (if p1 = (0 : Int32) then (32 : Int32)
  else (0 : Int32)))
theorem ef_25 (m : MethodId) (p1 : Int32) : entryFrame m #[(.int p1)] 2 = mkF m 0 #[.val (.int p1), .unset] [] := by first | (simp [entryFrame, mkF, argsToLocals, Value.category]; done) | rfl
theorem rm25 (l : Launch) (Z : State) (a0 : Array Value) (hw : HH a0 Z) (ws : List Jvm.Cond) (p1 : Int32) (h0 : Heap) (n0 : Nat) (Z0 : n0 ≤ h0.size) : MF l "java/lang/Integer" "numberOfLeadingZeros" "(I)I" jdk_33_method_47_code 2 (some .int) ws ⟨0, 0, 0, 0⟩ Z h0 #[(.int p1)] (fun v h L => v = some (.int (F25 p1)) ∧ Fr n0 L ∧ h = h0) := by
 refine own_body (n0 := n0) (plainFor_of_name pn_22) (fun m => ef_25 m p1) ?_
 intro p e s m below meth c s₁ hZ hx hby hml hown hlk hret hnm X0 e0 N0
 show Aq s₁ 0 #[vi p1, vu] []
 refine iN X0 hx hby d25_0 rfl ?_
 by_cases c1 : (0 : Int32) < p1
 ·refine iY X0 hx hby d25_1 (pc' := 15) ((if0 _ _).trans (tlt c1).2.2.1) (H := ?_)
  refine iB X0 hx hby d25_15 (z := 31) rfl ?_
  refine sN X0 hx hby d25_17 (l' := #[vi p1, vi 31]) rfl ?_
  refine iN X0 hx hby d25_18 rfl ?_
  refine dS (X0.ldcwInt hx hown (mvT hZ (tw156 hw)) (g := (mkF m 19 #[vi p1, vi 31] [(.int p1)])) rfl (hb hby d25_19)) ?_
  show Aq s₁ 22 #[vi p1, vi 31] [(.int 65536), (.int p1)]
  by_cases c2 : p1 < (65536 : Int32)
  ·refine cY X0 hx hby d25_22 (pc' := 33) (tlt c2).1 (H := ?_)
   refine iN X0 hx hby d25_33 rfl ?_
   refine dS (fun t k => XS.sipush X0.here hx rfl (hb hby d25_34) k) ?_
   show Aq s₁ 37 #[vi p1, vi 31] [(.int 256), (.int p1)]
   by_cases c3 : p1 < (256 : Int32)
   ·refine cY X0 hx hby d25_37 (pc' := 48) (tlt c3).1 (H := ?_)
    refine iN X0 hx hby d25_48 rfl ?_
    refine iB X0 hx hby d25_49 (z := 16) rfl ?_
    by_cases c4 : p1 < (16 : Int32)
    ·refine cY X0 hx hby d25_51 (pc' := 61) (tlt c4).1 (H := ?_)
     refine iN X0 hx hby d25_61 rfl ?_
     refine iC X0 hx hby d25_62 (z := 4) rfl ?_
     by_cases c5 : p1 < (4 : Int32)
     ·refine cY X0 hx hby d25_63 (pc' := 73) (tlt c5).1 (H := ?_)
      refine iN X0 hx hby d25_73 rfl ?_
      refine iN X0 hx hby d25_74 rfl ?_
      refine iC X0 hx hby d25_75 (z := 1) rfl ?_
      refine iU X0 hx hby d25_76 ?_
      refine iS X0 hx hby d25_77 ?_
      exact Done.int X0 hx hlk hret (hb hby d25_78) (by decide) (by decide) ⟨by unfold F25; rw [if_pos c1, if_pos c2, if_pos c3, if_pos c4, if_pos c5], N0, e0⟩
     ·refine cF X0 hx hby d25_63 (flt c5).1 ?_
      refine dS (fun t k => XS.iinc X0.here hx rfl (hb hby d25_66) rfl (l' := #[vi p1, vi ((31 : Int32) + (-2 : Int32))]) rfl k) ?_
      show Aq s₁ 69 #[vi p1, vi ((31 : Int32) + (-2 : Int32))] []
      refine iN X0 hx hby d25_69 rfl ?_
      refine iC X0 hx hby d25_70 (z := 2) rfl ?_
      refine iU X0 hx hby d25_71 ?_
      generalize dx1 : ((p1.toUInt32 >>> ((2 : Int32) &&& 31).toUInt32).toInt32) = x1
      show Aq s₁ 72 #[vi p1, vi ((31 : Int32) + (-2 : Int32))] [(.int x1)]
      refine sN X0 hx hby d25_72 (l' := #[vi x1, vi ((31 : Int32) + (-2 : Int32))]) rfl ?_
      refine iN X0 hx hby d25_73 rfl ?_
      refine iN X0 hx hby d25_74 rfl ?_
      refine iC X0 hx hby d25_75 (z := 1) rfl ?_
      refine iU X0 hx hby d25_76 ?_
      refine iS X0 hx hby d25_77 ?_
      subst dx1
      exact Done.int X0 hx hlk hret (hb hby d25_78) (by decide) (by decide) ⟨by unfold F25; rw [if_pos c1, if_pos c2, if_pos c3, if_pos c4, if_neg c5], N0, e0⟩
    ·refine cF X0 hx hby d25_51 (flt c4).1 ?_
     refine dS (fun t k => XS.iinc X0.here hx rfl (hb hby d25_54) rfl (l' := #[vi p1, vi ((31 : Int32) + (-4 : Int32))]) rfl k) ?_
     show Aq s₁ 57 #[vi p1, vi ((31 : Int32) + (-4 : Int32))] []
     refine iN X0 hx hby d25_57 rfl ?_
     refine iC X0 hx hby d25_58 (z := 4) rfl ?_
     refine iU X0 hx hby d25_59 ?_
     generalize dx2 : ((p1.toUInt32 >>> ((4 : Int32) &&& 31).toUInt32).toInt32) = x2
     show Aq s₁ 60 #[vi p1, vi ((31 : Int32) + (-4 : Int32))] [(.int x2)]
     refine sN X0 hx hby d25_60 (l' := #[vi x2, vi ((31 : Int32) + (-4 : Int32))]) rfl ?_
     refine iN X0 hx hby d25_61 rfl ?_
     refine iC X0 hx hby d25_62 (z := 4) rfl ?_
     by_cases c6 : x2 < (4 : Int32)
     ·refine cY X0 hx hby d25_63 (pc' := 73) (tlt c6).1 (H := ?_)
      refine iN X0 hx hby d25_73 rfl ?_
      refine iN X0 hx hby d25_74 rfl ?_
      refine iC X0 hx hby d25_75 (z := 1) rfl ?_
      refine iU X0 hx hby d25_76 ?_
      refine iS X0 hx hby d25_77 ?_
      subst dx2
      exact Done.int X0 hx hlk hret (hb hby d25_78) (by decide) (by decide) ⟨by unfold F25; rw [if_pos c1, if_pos c2, if_pos c3, if_neg c4, if_pos c6], N0, e0⟩
     ·refine cF X0 hx hby d25_63 (flt c6).1 ?_
      refine dS (fun t k => XS.iinc X0.here hx rfl (hb hby d25_66) rfl (l' := #[vi x2, vi (((31 : Int32) + (-4 : Int32)) + (-2 : Int32))]) rfl k) ?_
      show Aq s₁ 69 #[vi x2, vi (((31 : Int32) + (-4 : Int32)) + (-2 : Int32))] []
      refine iN X0 hx hby d25_69 rfl ?_
      refine iC X0 hx hby d25_70 (z := 2) rfl ?_
      refine iU X0 hx hby d25_71 ?_
      generalize dx3 : ((x2.toUInt32 >>> ((2 : Int32) &&& 31).toUInt32).toInt32) = x3
      show Aq s₁ 72 #[vi x2, vi (((31 : Int32) + (-4 : Int32)) + (-2 : Int32))] [(.int x3)]
      refine sN X0 hx hby d25_72 (l' := #[vi x3, vi (((31 : Int32) + (-4 : Int32)) + (-2 : Int32))]) rfl ?_
      refine iN X0 hx hby d25_73 rfl ?_
      refine iN X0 hx hby d25_74 rfl ?_
      refine iC X0 hx hby d25_75 (z := 1) rfl ?_
      refine iU X0 hx hby d25_76 ?_
      refine iS X0 hx hby d25_77 ?_
      subst dx3 dx2
      exact Done.int X0 hx hlk hret (hb hby d25_78) (by decide) (by decide) ⟨by unfold F25; rw [if_pos c1, if_pos c2, if_pos c3, if_neg c4, if_neg c6], N0, e0⟩
   ·refine cF X0 hx hby d25_37 (flt c3).1 ?_
    refine dS (fun t k => XS.iinc X0.here hx rfl (hb hby d25_40) rfl (l' := #[vi p1, vi ((31 : Int32) + (-8 : Int32))]) rfl k) ?_
    show Aq s₁ 43 #[vi p1, vi ((31 : Int32) + (-8 : Int32))] []
    refine iN X0 hx hby d25_43 rfl ?_
    refine iB X0 hx hby d25_44 (z := 8) rfl ?_
    refine iU X0 hx hby d25_46 ?_
    generalize dx4 : ((p1.toUInt32 >>> ((8 : Int32) &&& 31).toUInt32).toInt32) = x4
    show Aq s₁ 47 #[vi p1, vi ((31 : Int32) + (-8 : Int32))] [(.int x4)]
    refine sN X0 hx hby d25_47 (l' := #[vi x4, vi ((31 : Int32) + (-8 : Int32))]) rfl ?_
    refine iN X0 hx hby d25_48 rfl ?_
    refine iB X0 hx hby d25_49 (z := 16) rfl ?_
    by_cases c7 : x4 < (16 : Int32)
    ·refine cY X0 hx hby d25_51 (pc' := 61) (tlt c7).1 (H := ?_)
     refine iN X0 hx hby d25_61 rfl ?_
     refine iC X0 hx hby d25_62 (z := 4) rfl ?_
     by_cases c8 : x4 < (4 : Int32)
     ·refine cY X0 hx hby d25_63 (pc' := 73) (tlt c8).1 (H := ?_)
      refine iN X0 hx hby d25_73 rfl ?_
      refine iN X0 hx hby d25_74 rfl ?_
      refine iC X0 hx hby d25_75 (z := 1) rfl ?_
      refine iU X0 hx hby d25_76 ?_
      refine iS X0 hx hby d25_77 ?_
      subst dx4
      exact Done.int X0 hx hlk hret (hb hby d25_78) (by decide) (by decide) ⟨by unfold F25; rw [if_pos c1, if_pos c2, if_neg c3, if_pos c7, if_pos c8], N0, e0⟩
     ·refine cF X0 hx hby d25_63 (flt c8).1 ?_
      refine dS (fun t k => XS.iinc X0.here hx rfl (hb hby d25_66) rfl (l' := #[vi x4, vi (((31 : Int32) + (-8 : Int32)) + (-2 : Int32))]) rfl k) ?_
      show Aq s₁ 69 #[vi x4, vi (((31 : Int32) + (-8 : Int32)) + (-2 : Int32))] []
      refine iN X0 hx hby d25_69 rfl ?_
      refine iC X0 hx hby d25_70 (z := 2) rfl ?_
      refine iU X0 hx hby d25_71 ?_
      generalize dx5 : ((x4.toUInt32 >>> ((2 : Int32) &&& 31).toUInt32).toInt32) = x5
      show Aq s₁ 72 #[vi x4, vi (((31 : Int32) + (-8 : Int32)) + (-2 : Int32))] [(.int x5)]
      refine sN X0 hx hby d25_72 (l' := #[vi x5, vi (((31 : Int32) + (-8 : Int32)) + (-2 : Int32))]) rfl ?_
      refine iN X0 hx hby d25_73 rfl ?_
      refine iN X0 hx hby d25_74 rfl ?_
      refine iC X0 hx hby d25_75 (z := 1) rfl ?_
      refine iU X0 hx hby d25_76 ?_
      refine iS X0 hx hby d25_77 ?_
      subst dx5 dx4
      exact Done.int X0 hx hlk hret (hb hby d25_78) (by decide) (by decide) ⟨by unfold F25; rw [if_pos c1, if_pos c2, if_neg c3, if_pos c7, if_neg c8], N0, e0⟩
    ·refine cF X0 hx hby d25_51 (flt c7).1 ?_
     refine dS (fun t k => XS.iinc X0.here hx rfl (hb hby d25_54) rfl (l' := #[vi x4, vi (((31 : Int32) + (-8 : Int32)) + (-4 : Int32))]) rfl k) ?_
     show Aq s₁ 57 #[vi x4, vi (((31 : Int32) + (-8 : Int32)) + (-4 : Int32))] []
     refine iN X0 hx hby d25_57 rfl ?_
     refine iC X0 hx hby d25_58 (z := 4) rfl ?_
     refine iU X0 hx hby d25_59 ?_
     generalize dx6 : ((x4.toUInt32 >>> ((4 : Int32) &&& 31).toUInt32).toInt32) = x6
     show Aq s₁ 60 #[vi x4, vi (((31 : Int32) + (-8 : Int32)) + (-4 : Int32))] [(.int x6)]
     refine sN X0 hx hby d25_60 (l' := #[vi x6, vi (((31 : Int32) + (-8 : Int32)) + (-4 : Int32))]) rfl ?_
     refine iN X0 hx hby d25_61 rfl ?_
     refine iC X0 hx hby d25_62 (z := 4) rfl ?_
     by_cases c9 : x6 < (4 : Int32)
     ·refine cY X0 hx hby d25_63 (pc' := 73) (tlt c9).1 (H := ?_)
      refine iN X0 hx hby d25_73 rfl ?_
      refine iN X0 hx hby d25_74 rfl ?_
      refine iC X0 hx hby d25_75 (z := 1) rfl ?_
      refine iU X0 hx hby d25_76 ?_
      refine iS X0 hx hby d25_77 ?_
      subst dx6 dx4
      exact Done.int X0 hx hlk hret (hb hby d25_78) (by decide) (by decide) ⟨by unfold F25; rw [if_pos c1, if_pos c2, if_neg c3, if_neg c7, if_pos c9], N0, e0⟩
     ·refine cF X0 hx hby d25_63 (flt c9).1 ?_
      refine dS (fun t k => XS.iinc X0.here hx rfl (hb hby d25_66) rfl (l' := #[vi x6, vi ((((31 : Int32) + (-8 : Int32)) + (-4 : Int32)) + (-2 : Int32))]) rfl k) ?_
      show Aq s₁ 69 #[vi x6, vi ((((31 : Int32) + (-8 : Int32)) + (-4 : Int32)) + (-2 : Int32))] []
      refine iN X0 hx hby d25_69 rfl ?_
      refine iC X0 hx hby d25_70 (z := 2) rfl ?_
      refine iU X0 hx hby d25_71 ?_
      generalize dx7 : ((x6.toUInt32 >>> ((2 : Int32) &&& 31).toUInt32).toInt32) = x7
      show Aq s₁ 72 #[vi x6, vi ((((31 : Int32) + (-8 : Int32)) + (-4 : Int32)) + (-2 : Int32))] [(.int x7)]
      refine sN X0 hx hby d25_72 (l' := #[vi x7, vi ((((31 : Int32) + (-8 : Int32)) + (-4 : Int32)) + (-2 : Int32))]) rfl ?_
      refine iN X0 hx hby d25_73 rfl ?_
      refine iN X0 hx hby d25_74 rfl ?_
      refine iC X0 hx hby d25_75 (z := 1) rfl ?_
      refine iU X0 hx hby d25_76 ?_
      refine iS X0 hx hby d25_77 ?_
      subst dx7 dx6 dx4
      exact Done.int X0 hx hlk hret (hb hby d25_78) (by decide) (by decide) ⟨by unfold F25; rw [if_pos c1, if_pos c2, if_neg c3, if_neg c7, if_neg c9], N0, e0⟩
  ·refine cF X0 hx hby d25_22 (flt c2).1 ?_
   refine dS (fun t k => XS.iinc X0.here hx rfl (hb hby d25_25) rfl (l' := #[vi p1, vi ((31 : Int32) + (-16 : Int32))]) rfl k) ?_
   show Aq s₁ 28 #[vi p1, vi ((31 : Int32) + (-16 : Int32))] []
   refine iN X0 hx hby d25_28 rfl ?_
   refine iB X0 hx hby d25_29 (z := 16) rfl ?_
   refine iU X0 hx hby d25_31 ?_
   generalize dx8 : ((p1.toUInt32 >>> ((16 : Int32) &&& 31).toUInt32).toInt32) = x8
   show Aq s₁ 32 #[vi p1, vi ((31 : Int32) + (-16 : Int32))] [(.int x8)]
   refine sN X0 hx hby d25_32 (l' := #[vi x8, vi ((31 : Int32) + (-16 : Int32))]) rfl ?_
   refine iN X0 hx hby d25_33 rfl ?_
   refine dS (fun t k => XS.sipush X0.here hx rfl (hb hby d25_34) k) ?_
   show Aq s₁ 37 #[vi x8, vi ((31 : Int32) + (-16 : Int32))] [(.int 256), (.int x8)]
   by_cases c10 : x8 < (256 : Int32)
   ·refine cY X0 hx hby d25_37 (pc' := 48) (tlt c10).1 (H := ?_)
    refine iN X0 hx hby d25_48 rfl ?_
    refine iB X0 hx hby d25_49 (z := 16) rfl ?_
    by_cases c11 : x8 < (16 : Int32)
    ·refine cY X0 hx hby d25_51 (pc' := 61) (tlt c11).1 (H := ?_)
     refine iN X0 hx hby d25_61 rfl ?_
     refine iC X0 hx hby d25_62 (z := 4) rfl ?_
     by_cases c12 : x8 < (4 : Int32)
     ·refine cY X0 hx hby d25_63 (pc' := 73) (tlt c12).1 (H := ?_)
      refine iN X0 hx hby d25_73 rfl ?_
      refine iN X0 hx hby d25_74 rfl ?_
      refine iC X0 hx hby d25_75 (z := 1) rfl ?_
      refine iU X0 hx hby d25_76 ?_
      refine iS X0 hx hby d25_77 ?_
      subst dx8
      exact Done.int X0 hx hlk hret (hb hby d25_78) (by decide) (by decide) ⟨by unfold F25; rw [if_pos c1, if_neg c2, if_pos c10, if_pos c11, if_pos c12], N0, e0⟩
     ·refine cF X0 hx hby d25_63 (flt c12).1 ?_
      refine dS (fun t k => XS.iinc X0.here hx rfl (hb hby d25_66) rfl (l' := #[vi x8, vi (((31 : Int32) + (-16 : Int32)) + (-2 : Int32))]) rfl k) ?_
      show Aq s₁ 69 #[vi x8, vi (((31 : Int32) + (-16 : Int32)) + (-2 : Int32))] []
      refine iN X0 hx hby d25_69 rfl ?_
      refine iC X0 hx hby d25_70 (z := 2) rfl ?_
      refine iU X0 hx hby d25_71 ?_
      generalize dx9 : ((x8.toUInt32 >>> ((2 : Int32) &&& 31).toUInt32).toInt32) = x9
      show Aq s₁ 72 #[vi x8, vi (((31 : Int32) + (-16 : Int32)) + (-2 : Int32))] [(.int x9)]
      refine sN X0 hx hby d25_72 (l' := #[vi x9, vi (((31 : Int32) + (-16 : Int32)) + (-2 : Int32))]) rfl ?_
      refine iN X0 hx hby d25_73 rfl ?_
      refine iN X0 hx hby d25_74 rfl ?_
      refine iC X0 hx hby d25_75 (z := 1) rfl ?_
      refine iU X0 hx hby d25_76 ?_
      refine iS X0 hx hby d25_77 ?_
      subst dx9 dx8
      exact Done.int X0 hx hlk hret (hb hby d25_78) (by decide) (by decide) ⟨by unfold F25; rw [if_pos c1, if_neg c2, if_pos c10, if_pos c11, if_neg c12], N0, e0⟩
    ·refine cF X0 hx hby d25_51 (flt c11).1 ?_
     refine dS (fun t k => XS.iinc X0.here hx rfl (hb hby d25_54) rfl (l' := #[vi x8, vi (((31 : Int32) + (-16 : Int32)) + (-4 : Int32))]) rfl k) ?_
     show Aq s₁ 57 #[vi x8, vi (((31 : Int32) + (-16 : Int32)) + (-4 : Int32))] []
     refine iN X0 hx hby d25_57 rfl ?_
     refine iC X0 hx hby d25_58 (z := 4) rfl ?_
     refine iU X0 hx hby d25_59 ?_
     generalize dx10 : ((x8.toUInt32 >>> ((4 : Int32) &&& 31).toUInt32).toInt32) = x10
     show Aq s₁ 60 #[vi x8, vi (((31 : Int32) + (-16 : Int32)) + (-4 : Int32))] [(.int x10)]
     refine sN X0 hx hby d25_60 (l' := #[vi x10, vi (((31 : Int32) + (-16 : Int32)) + (-4 : Int32))]) rfl ?_
     refine iN X0 hx hby d25_61 rfl ?_
     refine iC X0 hx hby d25_62 (z := 4) rfl ?_
     by_cases c13 : x10 < (4 : Int32)
     ·refine cY X0 hx hby d25_63 (pc' := 73) (tlt c13).1 (H := ?_)
      refine iN X0 hx hby d25_73 rfl ?_
      refine iN X0 hx hby d25_74 rfl ?_
      refine iC X0 hx hby d25_75 (z := 1) rfl ?_
      refine iU X0 hx hby d25_76 ?_
      refine iS X0 hx hby d25_77 ?_
      subst dx10 dx8
      exact Done.int X0 hx hlk hret (hb hby d25_78) (by decide) (by decide) ⟨by unfold F25; rw [if_pos c1, if_neg c2, if_pos c10, if_neg c11, if_pos c13], N0, e0⟩
     ·refine cF X0 hx hby d25_63 (flt c13).1 ?_
      refine dS (fun t k => XS.iinc X0.here hx rfl (hb hby d25_66) rfl (l' := #[vi x10, vi ((((31 : Int32) + (-16 : Int32)) + (-4 : Int32)) + (-2 : Int32))]) rfl k) ?_
      show Aq s₁ 69 #[vi x10, vi ((((31 : Int32) + (-16 : Int32)) + (-4 : Int32)) + (-2 : Int32))] []
      refine iN X0 hx hby d25_69 rfl ?_
      refine iC X0 hx hby d25_70 (z := 2) rfl ?_
      refine iU X0 hx hby d25_71 ?_
      generalize dx11 : ((x10.toUInt32 >>> ((2 : Int32) &&& 31).toUInt32).toInt32) = x11
      show Aq s₁ 72 #[vi x10, vi ((((31 : Int32) + (-16 : Int32)) + (-4 : Int32)) + (-2 : Int32))] [(.int x11)]
      refine sN X0 hx hby d25_72 (l' := #[vi x11, vi ((((31 : Int32) + (-16 : Int32)) + (-4 : Int32)) + (-2 : Int32))]) rfl ?_
      refine iN X0 hx hby d25_73 rfl ?_
      refine iN X0 hx hby d25_74 rfl ?_
      refine iC X0 hx hby d25_75 (z := 1) rfl ?_
      refine iU X0 hx hby d25_76 ?_
      refine iS X0 hx hby d25_77 ?_
      subst dx11 dx10 dx8
      exact Done.int X0 hx hlk hret (hb hby d25_78) (by decide) (by decide) ⟨by unfold F25; rw [if_pos c1, if_neg c2, if_pos c10, if_neg c11, if_neg c13], N0, e0⟩
   ·refine cF X0 hx hby d25_37 (flt c10).1 ?_
    refine dS (fun t k => XS.iinc X0.here hx rfl (hb hby d25_40) rfl (l' := #[vi x8, vi (((31 : Int32) + (-16 : Int32)) + (-8 : Int32))]) rfl k) ?_
    show Aq s₁ 43 #[vi x8, vi (((31 : Int32) + (-16 : Int32)) + (-8 : Int32))] []
    refine iN X0 hx hby d25_43 rfl ?_
    refine iB X0 hx hby d25_44 (z := 8) rfl ?_
    refine iU X0 hx hby d25_46 ?_
    generalize dx12 : ((x8.toUInt32 >>> ((8 : Int32) &&& 31).toUInt32).toInt32) = x12
    show Aq s₁ 47 #[vi x8, vi (((31 : Int32) + (-16 : Int32)) + (-8 : Int32))] [(.int x12)]
    refine sN X0 hx hby d25_47 (l' := #[vi x12, vi (((31 : Int32) + (-16 : Int32)) + (-8 : Int32))]) rfl ?_
    refine iN X0 hx hby d25_48 rfl ?_
    refine iB X0 hx hby d25_49 (z := 16) rfl ?_
    by_cases c14 : x12 < (16 : Int32)
    ·refine cY X0 hx hby d25_51 (pc' := 61) (tlt c14).1 (H := ?_)
     refine iN X0 hx hby d25_61 rfl ?_
     refine iC X0 hx hby d25_62 (z := 4) rfl ?_
     by_cases c15 : x12 < (4 : Int32)
     ·refine cY X0 hx hby d25_63 (pc' := 73) (tlt c15).1 (H := ?_)
      refine iN X0 hx hby d25_73 rfl ?_
      refine iN X0 hx hby d25_74 rfl ?_
      refine iC X0 hx hby d25_75 (z := 1) rfl ?_
      refine iU X0 hx hby d25_76 ?_
      refine iS X0 hx hby d25_77 ?_
      subst dx12 dx8
      exact Done.int X0 hx hlk hret (hb hby d25_78) (by decide) (by decide) ⟨by unfold F25; rw [if_pos c1, if_neg c2, if_neg c10, if_pos c14, if_pos c15], N0, e0⟩
     ·refine cF X0 hx hby d25_63 (flt c15).1 ?_
      refine dS (fun t k => XS.iinc X0.here hx rfl (hb hby d25_66) rfl (l' := #[vi x12, vi ((((31 : Int32) + (-16 : Int32)) + (-8 : Int32)) + (-2 : Int32))]) rfl k) ?_
      show Aq s₁ 69 #[vi x12, vi ((((31 : Int32) + (-16 : Int32)) + (-8 : Int32)) + (-2 : Int32))] []
      refine iN X0 hx hby d25_69 rfl ?_
      refine iC X0 hx hby d25_70 (z := 2) rfl ?_
      refine iU X0 hx hby d25_71 ?_
      generalize dx13 : ((x12.toUInt32 >>> ((2 : Int32) &&& 31).toUInt32).toInt32) = x13
      show Aq s₁ 72 #[vi x12, vi ((((31 : Int32) + (-16 : Int32)) + (-8 : Int32)) + (-2 : Int32))] [(.int x13)]
      refine sN X0 hx hby d25_72 (l' := #[vi x13, vi ((((31 : Int32) + (-16 : Int32)) + (-8 : Int32)) + (-2 : Int32))]) rfl ?_
      refine iN X0 hx hby d25_73 rfl ?_
      refine iN X0 hx hby d25_74 rfl ?_
      refine iC X0 hx hby d25_75 (z := 1) rfl ?_
      refine iU X0 hx hby d25_76 ?_
      refine iS X0 hx hby d25_77 ?_
      subst dx13 dx12 dx8
      exact Done.int X0 hx hlk hret (hb hby d25_78) (by decide) (by decide) ⟨by unfold F25; rw [if_pos c1, if_neg c2, if_neg c10, if_pos c14, if_neg c15], N0, e0⟩
    ·refine cF X0 hx hby d25_51 (flt c14).1 ?_
     refine dS (fun t k => XS.iinc X0.here hx rfl (hb hby d25_54) rfl (l' := #[vi x12, vi ((((31 : Int32) + (-16 : Int32)) + (-8 : Int32)) + (-4 : Int32))]) rfl k) ?_
     show Aq s₁ 57 #[vi x12, vi ((((31 : Int32) + (-16 : Int32)) + (-8 : Int32)) + (-4 : Int32))] []
     refine iN X0 hx hby d25_57 rfl ?_
     refine iC X0 hx hby d25_58 (z := 4) rfl ?_
     refine iU X0 hx hby d25_59 ?_
     generalize dx14 : ((x12.toUInt32 >>> ((4 : Int32) &&& 31).toUInt32).toInt32) = x14
     show Aq s₁ 60 #[vi x12, vi ((((31 : Int32) + (-16 : Int32)) + (-8 : Int32)) + (-4 : Int32))] [(.int x14)]
     refine sN X0 hx hby d25_60 (l' := #[vi x14, vi ((((31 : Int32) + (-16 : Int32)) + (-8 : Int32)) + (-4 : Int32))]) rfl ?_
     refine iN X0 hx hby d25_61 rfl ?_
     refine iC X0 hx hby d25_62 (z := 4) rfl ?_
     by_cases c16 : x14 < (4 : Int32)
     ·refine cY X0 hx hby d25_63 (pc' := 73) (tlt c16).1 (H := ?_)
      refine iN X0 hx hby d25_73 rfl ?_
      refine iN X0 hx hby d25_74 rfl ?_
      refine iC X0 hx hby d25_75 (z := 1) rfl ?_
      refine iU X0 hx hby d25_76 ?_
      refine iS X0 hx hby d25_77 ?_
      subst dx14 dx12 dx8
      exact Done.int X0 hx hlk hret (hb hby d25_78) (by decide) (by decide) ⟨by unfold F25; rw [if_pos c1, if_neg c2, if_neg c10, if_neg c14, if_pos c16], N0, e0⟩
     ·refine cF X0 hx hby d25_63 (flt c16).1 ?_
      refine dS (fun t k => XS.iinc X0.here hx rfl (hb hby d25_66) rfl (l' := #[vi x14, vi (((((31 : Int32) + (-16 : Int32)) + (-8 : Int32)) + (-4 : Int32)) + (-2 : Int32))]) rfl k) ?_
      show Aq s₁ 69 #[vi x14, vi (((((31 : Int32) + (-16 : Int32)) + (-8 : Int32)) + (-4 : Int32)) + (-2 : Int32))] []
      refine iN X0 hx hby d25_69 rfl ?_
      refine iC X0 hx hby d25_70 (z := 2) rfl ?_
      refine iU X0 hx hby d25_71 ?_
      generalize dx15 : ((x14.toUInt32 >>> ((2 : Int32) &&& 31).toUInt32).toInt32) = x15
      show Aq s₁ 72 #[vi x14, vi (((((31 : Int32) + (-16 : Int32)) + (-8 : Int32)) + (-4 : Int32)) + (-2 : Int32))] [(.int x15)]
      refine sN X0 hx hby d25_72 (l' := #[vi x15, vi (((((31 : Int32) + (-16 : Int32)) + (-8 : Int32)) + (-4 : Int32)) + (-2 : Int32))]) rfl ?_
      refine iN X0 hx hby d25_73 rfl ?_
      refine iN X0 hx hby d25_74 rfl ?_
      refine iC X0 hx hby d25_75 (z := 1) rfl ?_
      refine iU X0 hx hby d25_76 ?_
      refine iS X0 hx hby d25_77 ?_
      subst dx15 dx14 dx12 dx8
      exact Done.int X0 hx hlk hret (hb hby d25_78) (by decide) (by decide) ⟨by unfold F25; rw [if_pos c1, if_neg c2, if_neg c10, if_neg c14, if_neg c16], N0, e0⟩
 ·refine iF X0 hx hby d25_1 ((if0 _ _).trans (flt c1).2.2.1) ?_
  refine iN X0 hx hby d25_4 rfl ?_
  by_cases c17 : p1 = (0 : Int32)
  ·refine iF X0 hx hby d25_5 ((if0 _ _).trans (teq c17).2) ?_
   refine iB X0 hx hby d25_8 (z := 32) rfl ?_
   refine gO X0 hx hby d25_10 (pc' := 14) (H := ?_)
   exact Done.int X0 hx hlk hret (hb hby d25_14) (by decide) (by decide) ⟨by unfold F25; rw [if_neg c1, if_pos c17], N0, e0⟩
  ·refine iY X0 hx hby d25_5 (pc' := 13) ((if0 _ _).trans (feq c17).2) (H := ?_)
   refine iC X0 hx hby d25_13 (z := 0) rfl ?_
   exact Done.int X0 hx hlk hret (hb hby d25_14) (by decide) (by decide) ⟨by unfold F25; rw [if_neg c1, if_neg c17], N0, e0⟩
theorem d24_0 : dq cd2 0 (.bipush 32) 2 := by decide +kernel
theorem d24_2 : dq cd2 2 (.iload_n 0) 1 := by decide +kernel
theorem d24_3 : dq cd2 3 (.invokestatic 602) 3 := by decide +kernel
theorem d24_6 : dq cd2 6 .isub 1 := by decide +kernel
theorem d24_7 : dq cd2 7 .ireturn 1 := by decide +kernel
def F24 (p1 : Int32) : Int32 := ((32 : Int32) - (F25 p1))
theorem pn_24 : plainName "java/math/BigInteger" = true := by first | (simp [plainName, overriddenIn]; done) | decide +kernel
theorem ef_24 (m : MethodId) (p1 : Int32) : entryFrame m #[(.int p1)] 1 = mkF m 0 #[.val (.int p1)] [] := by first | (simp [entryFrame, mkF, argsToLocals, Value.category]; done) | rfl
theorem rm24 (l : Launch) (Z : State) (a0 : Array Value) (hw : HH a0 Z) (ws : List Jvm.Cond) (p1 : Int32) (h0 : Heap) (n0 : Nat) (Z0 : n0 ≤ h0.size) : MF l "java/math/BigInteger" "bitLengthForInt" "(I)I" jdk_2097_method_74_code 1 (some .int) ws ⟨1, 0, 0, 14⟩ Z h0 #[(.int p1)] (fun v h L => v = some (.int (F24 p1)) ∧ Fr n0 L ∧ h = h0) := by
 refine own_body (n0 := n0) (plainFor_of_name pn_24) (fun m => ef_24 m p1) ?_
 intro p e s m below meth c s₁ hZ hx hby hml hown hlk hret hnm X0 e0 N0
 show Aq s₁ 0 #[vi p1] []
 refine iB X0 hx hby d24_0 (z := 32) rfl ?_
 refine iN X0 hx hby d24_2 rfl ?_
 obtain ⟨v1, T1, L1, X1, hQ1, st1⟩ := cS X0 hx hZ hown (tw165 hw) (tw166 hw) (tw154 hw) (tw167 hw) (rm25 l Z a0 hw [] p1 h0 n0 Z0 ) (W := 1) e0 (g := (mkF m 3 #[vi p1] [(.int p1), (.int 32)])) rfl hml rfl (argsL := [(.int p1)]) (rest := [(.int 32)]) (lenOf pd_0 rfl) rfl rfl rfl (hb hby d24_3) rfl
 refine dS st1 ?_
 obtain ⟨rfl, N1q, e1⟩ := hQ1
 have N1 := Fr.app N0 N1q
 show Aq T1 6 #[vi p1] [(.int (F25 p1)), (.int 32)]
 refine iS X1 hx hby d24_6 ?_
 exact Done.int X1 hx hlk hret (hb hby d24_7) (by decide) (by decide) ⟨by rw [show F24 p1 = ((32 : Int32) - (F25 p1)) from by unfold F24; rfl] <;> rfl, N1, e1⟩
theorem d19_0 : dq cd3 0 (.iload_n 0) 1 := by decide +kernel
theorem d19_1 : dq cd3 1 (.ifCond .ge 8) 3 := by decide +kernel
theorem d19_4 : dq cd3 4 (.iload_n 0) 1 := by decide +kernel
theorem d19_5 : dq cd3 5 .ineg 1 := by decide +kernel
theorem d19_6 : dq cd3 6 (.goto 4) 3 := by decide +kernel
theorem d19_9 : dq cd3 9 (.iload_n 0) 1 := by decide +kernel
theorem d19_10 : dq cd3 10 .ireturn 1 := by decide +kernel
def F19 (p1 : Int32) : Int32 := (if p1 < (0 : Int32) then (-p1)
 else p1)
theorem ef_19 (m : MethodId) (p1 : Int32) : entryFrame m #[(.int p1)] 1 = mkF m 0 #[.val (.int p1)] [] := by first | (simp [entryFrame, mkF, argsToLocals, Value.category]; done) | rfl
theorem rm19 (l : Launch) (Z : State) (a0 : Array Value) (hw : HH a0 Z) (ws : List Jvm.Cond) (p1 : Int32) (h0 : Heap) (n0 : Nat) (Z0 : n0 ≤ h0.size) : MF l "java/lang/Math" "abs" "(I)I" jdk_29_method_59_code 1 (some .int) ws ⟨0, 0, 0, 0⟩ Z h0 #[(.int p1)] (fun v h L => v = some (.int (F19 p1)) ∧ Fr n0 L ∧ h = h0) := by
 refine own_body (n0 := n0) (Jvm.Free.JP.mathPlain rfl (by decide +kernel)) (fun m => ef_19 m p1) ?_
 intro p e s m below meth c s₁ hZ hx hby hml hown hlk hret hnm X0 e0 N0
 show Aq s₁ 0 #[vi p1] []
 refine iN X0 hx hby d19_0 rfl ?_
 by_cases c1 : p1 < (0 : Int32)
 ·refine iF X0 hx hby d19_1 ((if0 _ _).trans (tlt c1).2.1) ?_
  refine iN X0 hx hby d19_4 rfl ?_
  refine dS (fun t k => XS.ineg X0.here hx rfl (hb hby d19_5) rfl k) ?_
  show Aq s₁ 6 #[vi p1] [(.int (-p1))]
  refine gO X0 hx hby d19_6 (pc' := 10) (H := ?_)
  exact Done.int X0 hx hlk hret (hb hby d19_10) (by decide) (by decide) ⟨by rw [show F19 p1 = (-p1) from by unfold F19; rw [if_pos c1]] <;> rfl, N0, e0⟩
 ·refine iY X0 hx hby d19_1 (pc' := 9) ((if0 _ _).trans (flt c1).2.1) (H := ?_)
  refine iN X0 hx hby d19_9 rfl ?_
  exact Done.int X0 hx hlk hret (hb hby d19_10) (by decide) (by decide) ⟨by rw [show F19 p1 = p1 from by unfold F19; rw [if_neg c1]] <;> rfl, N0, e0⟩
theorem own_ntz (x : Int32) : F22 x = Jvm.Free.JP.Integer_numberOfTrailingZeros_I.val x := rfl
/-- an int as an unsigned number -/
def U (x : Int32) : Nat := x.toBitVec.toNat
theorem U.lt (x : Int32) : U x < 4294967296 := x.toBitVec.isLt
theorem U.inj {x y : Int32} (h : U x = U y) : x = y := Int32.toBitVec_inj.mp (BitVec.eq_of_toNat_eq h)
theorem own_amt : ∀ t : Fin 32, (Int32.ofNat t.1 &&& 31).toUInt32 = UInt32.ofNat t.1 := by decide +kernel
theorem own_ush (x : Int32) (t : Nat) (ht : t < 32) : U ((x.toUInt32 >>> (Int32.ofNat t &&& 31).toUInt32).toInt32) = U x / 2 ^ t := by
 have e := own_amt ⟨t, ht⟩
 dsimp only at e
 rw [e]
 show (x.toUInt32 >>> UInt32.ofNat t).toNat = _
 rw [UInt32.toNat_shiftRight, UInt32.toNat_ofNat_of_lt' (show t < UInt32.size by show t < 4294967296; omega), Nat.mod_eq_of_lt ht, Nat.shiftRight_eq_div_pow]
 rfl
theorem own_sub1 {x : Int32} (h : 1 ≤ U x) : U (x - (1 : Int32)) = U x - 1 := by
 have r := U.lt x
 unfold U at *
 rw [Int32.toBitVec_sub, BitVec.toNat_sub]
 show (2 ^ 32 - 1 + x.toBitVec.toNat) % 2 ^ 32 = _
 omega
theorem own_low {x : Int32} (h : 1 ≤ U x) : ∃ t : Nat, t < 32 ∧ F22 x = Int32.ofNat t ∧ 2 ^ t ≤ U x ∧ U x % 2 ^ t = 0 ∧ (U x / 2 ^ t) % 2 = 1 := by
 obtain ⟨t, h1, h2⟩ := Jvm.Free.JM.low_ex (U x) (by omega)
 refine ⟨t, Jvm.Free.JM.Low.lt (w := 32) ⟨h1, h2⟩ (U.lt x), Jvm.Free.JM.ntz32 ⟨h1, h2⟩, ?_, h1, h2⟩
 refine Nat.le_of_not_lt fun q => ?_
 rw [Nat.div_eq_of_lt q] at h2; cases h2
theorem own_gdec {a : Int32} (h : 2 ≤ U a) : 1 ≤ U ((((a - (1 : Int32))).toUInt32 >>> ((F22 (a - (1 : Int32))) &&& 31).toUInt32).toInt32) ∧ U ((((a - (1 : Int32))).toUInt32 >>> ((F22 (a - (1 : Int32))) &&& 31).toUInt32).toInt32) < U a := by
 have e := own_sub1 (x := a) (by omega)
 obtain ⟨t, ht, f, g, -, -⟩ := own_low (x := a - (1 : Int32)) (by omega)
 rw [f, own_ush _ t ht, e]
 rw [e] at g
 have p := Nat.two_pow_pos t
 exact ⟨(Nat.le_div_iff_mul_le p).mpr (by omega), Nat.lt_of_le_of_lt (Nat.div_le_self _ _) (by omega)⟩
theorem own_ur (x : Int32) : (x.toInt - (U x : Int)) % 4294967296 = 0 := by
 have q : x.toInt = x.toBitVec.toInt := rfl
 rw [q, BitVec.toInt_eq_toNat_cond]
 unfold U
 split <;> omega
theorem own_ge2 {a : Int32} (h : 1 ≤ U a) (hn : ¬ a = (1 : Int32)) : 2 ≤ U a := by
 refine Nat.lt_of_le_of_ne h fun q => hn (U.inj ?_)
 exact q.symm
theorem own_gt {a : Int32} (h : 2 ≤ U a) : ((1 : Int32) + (-2147483648 : Int32)) < (a + (-2147483648 : Int32)) := by
 rw [Int32.lt_iff_toInt_lt]
 have c1 := c_iadd a (-2147483648 : Int32)
 have r := rng32 (a + (-2147483648 : Int32))
 have u := own_ur a
 have l := U.lt a
 have e : ((1 : Int32) + (-2147483648 : Int32)).toInt = -2147483647 := by decide
 have m : (-2147483648 : Int32).toInt = -2147483648 := by decide
 rw [e]; omega
theorem own_f1 : F22 (1 : Int32) = (0 : Int32) := by decide +kernel
theorem own_ofn : ∀ t : Fin 32, ¬ Int32.ofNat t.1 < (0 : Int32) := by decide +kernel
theorem own_ntn {x : Int32} (h : 1 ≤ U x) : ¬ (F22 x) < (F22 (1 : Int32)) := by
 obtain ⟨t, ht, f, -⟩ := own_low h
 rw [f, own_f1]; exact own_ofn ⟨t, ht⟩
theorem own_first {x : Int32} (h : 1 ≤ U x) : 1 ≤ U ((x.toUInt32 >>> ((F22 x) &&& 31).toUInt32).toInt32) := by
 obtain ⟨t, ht, f, g, -, -⟩ := own_low h
 rw [f, own_ush _ t ht]
 exact (Nat.le_div_iff_mul_le (Nat.two_pow_pos t)).mpr (by omega)
theorem d27_42 : dq cd4 42 (.iload_n 0) 1 := by decide +kernel
theorem d27_43 : dq cd4 43 (.iload_n 1) 1 := by decide +kernel
theorem d27_44 : dq cd4 44 (.if_icmp .eq 42) 3 := by decide +kernel
theorem d27_47 : dq cd4 47 (.iload_n 0) 1 := by decide +kernel
theorem d27_48 : dq cd4 48 (.ldc 88) 2 := by decide +kernel
theorem d27_50 : dq cd4 50 .iadd 1 := by decide +kernel
theorem d27_51 : dq cd4 51 (.iload_n 1) 1 := by decide +kernel
theorem d27_52 : dq cd4 52 (.ldc 88) 2 := by decide +kernel
theorem d27_54 : dq cd4 54 .iadd 1 := by decide +kernel
theorem d27_55 : dq cd4 55 (.if_icmp .le 17) 3 := by decide +kernel
theorem d27_58 : dq cd4 58 (.iload_n 0) 1 := by decide +kernel
theorem d27_59 : dq cd4 59 (.iload_n 1) 1 := by decide +kernel
theorem d27_60 : dq cd4 60 .isub 1 := by decide +kernel
theorem d27_61 : dq cd4 61 (.istore_n 0) 1 := by decide +kernel
theorem d27_62 : dq cd4 62 (.iload_n 0) 1 := by decide +kernel
theorem d27_63 : dq cd4 63 (.iload_n 0) 1 := by decide +kernel
theorem d27_64 : dq cd4 64 (.invokestatic 89) 3 := by decide +kernel
theorem d27_67 : dq cd4 67 .iushr 1 := by decide +kernel
theorem d27_68 : dq cd4 68 (.istore_n 0) 1 := by decide +kernel
theorem d27_69 : dq cd4 69 (.goto (-27)) 3 := by decide +kernel
theorem d27_86 : dq cd4 86 (.iload_n 0) 1 := by decide +kernel
theorem d27_87 : dq cd4 87 (.iload 4) 2 := by decide +kernel
theorem d27_89 : dq cd4 89 .ishl 1 := by decide +kernel
theorem d27_90 : dq cd4 90 .ireturn 1 := by decide +kernel
theorem lpbg {p : Program} {l : Launch} {e : Env} {s : State} {m : MethodId} {args : Array Value} {below : List Frame} {meth : Method} {c : Code} {Z : State} {a0 : Array Value} {h0 : Heap} {n0 : Nat} (x2 x3 : Int32)
  (hx : p.tables.exec = Jvm.exec) (hZ : Z.Warmed39 s.vm) (hw : HH a0 Z) (hby : c.code = jdk_2101_method_74_code) (hml : c.maxLocals = 5) (hown : s.vm.findClass "java/math/MutableBigInteger" = some m.cls) (hlk : meth.locks = false) (hret : meth.sig.returnType = (some .int : Option FieldType)) (hnm : meth.name = "binaryGcd") :
  ∀ (k : Nat) (T : State) (locs : List Loc) (a : Int32) (X0 : Stand p l e ({ frames := 1, cells := 0, slots := 0, locals := 20 } : Room) s m args below meth c T locs 0 0) (N0 : Fr n0 locs) (Z0 : n0 ≤ h0.size) (e0 : T.heap = h0) (hk : U a < k) (ha : 1 ≤ U a), Done p e below s (fun v h L => v = some (.int 1) ∧ Fr n0 L ∧ h = h0) ({ frames := 1, cells := 0, slots := 0, locals := 20 } : Room).cells ({ frames := 1, cells := 0, slots := 0, locals := 20 } : Room).slots (T.setTop (mkF m 42 #[vi a, vi 1, vi x2, vi x3, vi 0] [])) := by
 intro k
 induction k with
 | zero => intro T locs a X0 N0 Z0 e0 hk ha; exact absurd hk (Nat.not_lt_zero _)
 | succ k ih =>
  intro T locs a X0 N0 Z0 e0 hk ha
  show Aq T 42 #[vi a, vi 1, vi x2, vi x3, vi 0] []
  refine iN X0 hx hby d27_42 rfl ?_
  refine iN X0 hx hby d27_43 rfl ?_
  by_cases c1 : a = (1 : Int32)
  ·refine cY X0 hx hby d27_44 (pc' := 86) (teq c1).1 (H := ?_)
   refine iN X0 hx hby d27_86 rfl ?_
   refine iL X0 hx hby d27_87 rfl ?_
   refine dS (fun t k => XS.ishl X0.here hx rfl (hb hby d27_89) rfl k) ?_
   show Aq T 90 #[vi a, vi 1, vi x2, vi x3, vi 0] [(.int (a <<< ((0 : Int32) &&& 31)))]
   subst c1
   exact Done.int X0 hx hlk hret (hb hby d27_90) (by decide) (by decide) ⟨by congr 2, N0, e0⟩
  ·refine cF X0 hx hby d27_44 (feq c1).1 ?_
   have h2 := own_ge2 ha c1
   refine iN X0 hx hby d27_47 rfl ?_
   refine dS (X0.ldcInt hx hown (mvT hZ (tw227 hw)) (g := (mkF m 48 #[vi a, vi 1, vi x2, vi x3, vi 0] [(.int a)])) rfl (hb hby d27_48)) ?_
   show Aq T 50 #[vi a, vi 1, vi x2, vi x3, vi 0] [(.int (-2147483648 : Int32)), (.int a)]
   refine iA X0 hx hby d27_50 ?_
   refine iN X0 hx hby d27_51 rfl ?_
   refine dS (X0.ldcInt hx hown (mvT hZ (tw227 hw)) (g := (mkF m 52 #[vi a, vi 1, vi x2, vi x3, vi 0] [(.int 1), (.int (a + (-2147483648 : Int32)))])) rfl (hb hby d27_52)) ?_
   show Aq T 54 #[vi a, vi 1, vi x2, vi x3, vi 0] [(.int (-2147483648 : Int32)), (.int 1), (.int (a + (-2147483648 : Int32)))]
   refine iA X0 hx hby d27_54 ?_
   refine cF X0 hx hby d27_55 (tlt (own_gt h2)).2.2.2 ?_
   refine iN X0 hx hby d27_58 rfl ?_
   refine iN X0 hx hby d27_59 rfl ?_
   refine iS X0 hx hby d27_60 ?_
   refine sN X0 hx hby d27_61 (l' := #[vi (a - (1 : Int32)), vi 1, vi x2, vi x3, vi 0]) rfl ?_
   refine iN X0 hx hby d27_62 rfl ?_
   refine iN X0 hx hby d27_63 rfl ?_
   obtain ⟨v101, T101, L101, X101, hQ101, st101⟩ := cS X0 hx hZ hown (tw152 hw) (tw153 hw) (tw154 hw) (tw155 hw) (rm22 l Z a0 hw [] (a - (1 : Int32)) h0 n0 Z0 ) (W := 1) e0 (g := (mkF m 64 #[vi (a - (1 : Int32)), vi 1, vi x2, vi x3, vi 0] [(.int (a - (1 : Int32))), (.int (a - (1 : Int32)))])) rfl hml rfl (argsL := [(.int (a - (1 : Int32)))]) (rest := [(.int (a - (1 : Int32)))]) (lenOf pd_0 rfl) rfl rfl rfl (hb hby d27_64) rfl
   refine dS st101 ?_
   obtain ⟨rfl, N101q, e101⟩ := hQ101
   have N101 := Fr.app N0 N101q
   show Aq T101 67 #[vi (a - (1 : Int32)), vi 1, vi x2, vi x3, vi 0] [(.int (F22 (a - (1 : Int32)))), (.int (a - (1 : Int32)))]
   refine iU X101 hx hby d27_67 ?_
   refine sN X101 hx hby d27_68 (l' := #[vi (((a - (1 : Int32)).toUInt32 >>> ((F22 (a - (1 : Int32))) &&& 31).toUInt32).toInt32), vi 1, vi x2, vi x3, vi 0]) rfl ?_
   refine gO X101 hx hby d27_69 (pc' := 42) (H := ?_)
   exact ih T101 _ (((a - (1 : Int32)).toUInt32 >>> ((F22 (a - (1 : Int32))) &&& 31).toUInt32).toInt32) X101 N101 Z0 e101 (Nat.lt_of_lt_of_le (own_gdec h2).2 (Nat.le_of_lt_succ hk)) (own_gdec h2).1
theorem d27_0 : dq cd4 0 (.iload_n 1) 1 := by decide +kernel
theorem d27_1 : dq cd4 1 (.ifCond .ne 5) 3 := by decide +kernel
theorem d27_6 : dq cd4 6 (.iload_n 0) 1 := by decide +kernel
theorem d27_7 : dq cd4 7 (.ifCond .ne 5) 3 := by decide +kernel
theorem d27_12 : dq cd4 12 (.iload_n 0) 1 := by decide +kernel
theorem d27_13 : dq cd4 13 (.invokestatic 89) 3 := by decide +kernel
theorem d27_16 : dq cd4 16 (.istore_n 2) 1 := by decide +kernel
theorem d27_17 : dq cd4 17 (.iload_n 1) 1 := by decide +kernel
theorem d27_18 : dq cd4 18 (.invokestatic 89) 3 := by decide +kernel
theorem d27_21 : dq cd4 21 (.istore_n 3) 1 := by decide +kernel
theorem d27_22 : dq cd4 22 (.iload_n 0) 1 := by decide +kernel
theorem d27_23 : dq cd4 23 (.iload_n 2) 1 := by decide +kernel
theorem d27_24 : dq cd4 24 .iushr 1 := by decide +kernel
theorem d27_25 : dq cd4 25 (.istore_n 0) 1 := by decide +kernel
theorem d27_26 : dq cd4 26 (.iload_n 1) 1 := by decide +kernel
theorem d27_27 : dq cd4 27 (.iload_n 3) 1 := by decide +kernel
theorem d27_28 : dq cd4 28 .iushr 1 := by decide +kernel
theorem d27_29 : dq cd4 29 (.istore_n 1) 1 := by decide +kernel
theorem d27_30 : dq cd4 30 (.iload_n 2) 1 := by decide +kernel
theorem d27_31 : dq cd4 31 (.iload_n 3) 1 := by decide +kernel
theorem d27_32 : dq cd4 32 (.if_icmp .ge 7) 3 := by decide +kernel
theorem d27_39 : dq cd4 39 (.iload_n 3) 1 := by decide +kernel
theorem d27_40 : dq cd4 40 (.istore 4) 2 := by decide +kernel
theorem pn_27 : plainName "java/math/MutableBigInteger" = true := by first | (simp [plainName, overriddenIn]; done) | decide +kernel
theorem ef_27 (m : MethodId) (p1 : Int32) (p2 : Int32) : entryFrame m #[(.int p1), (.int p2)] 5 = mkF m 0 #[.val (.int p1), .val (.int p2), .unset, .unset, .unset] [] := by first | (simp [entryFrame, mkF, argsToLocals, Value.category]; done) | rfl
theorem rm27 (l : Launch) (Z : State) (a0 : Array Value) (hw : HH a0 Z) (ws : List Jvm.Cond) (p1 p2 : Int32) (h0 : Heap) (n0 : Nat) (Z0 : n0 ≤ h0.size) (h1 : 1 ≤ U p1) (hp2 : p2 = (1 : Int32)) : MF l "java/math/MutableBigInteger" "binaryGcd" "(II)I" jdk_2101_method_74_code 5 (some .int) ws ⟨1, 0, 0, 20⟩ Z h0 #[(.int p1), (.int p2)] (fun v h L => v = some (.int 1) ∧ Fr n0 L ∧ h = h0) := by
 refine own_body (n0 := n0) (plainFor_of_name pn_27) (fun m => ef_27 m p1 p2) ?_
 intro p e s m below meth c s₁ hZ hx hby hml hown hlk hret hnm X0 e0 N0
 subst hp2
 show Aq s₁ 0 #[vi p1, vi 1, vu, vu, vu] []
 refine iN X0 hx hby d27_0 rfl ?_
 refine iY X0 hx hby d27_1 (pc' := 6) ((if0 _ _).trans (feq (by decide)).2) (H := ?_)
 refine iN X0 hx hby d27_6 rfl ?_
 refine iY X0 hx hby d27_7 (pc' := 12) ((if0 _ _).trans (feq (fun q => by rw [q] at h1; exact absurd h1 (by decide))).2) (H := ?_)
 refine iN X0 hx hby d27_12 rfl ?_
 obtain ⟨v101, T101, L101, X101, hQ101, st101⟩ := cS X0 hx hZ hown (tw152 hw) (tw153 hw) (tw154 hw) (tw155 hw) (rm22 l Z a0 hw [] p1 h0 n0 Z0 ) (W := 0) e0 (g := (mkF m 13 #[vi p1, vi 1, vu, vu, vu] [(.int p1)])) rfl hml rfl (argsL := [(.int p1)]) (rest := []) (lenOf pd_0 rfl) rfl rfl rfl (hb hby d27_13) rfl
 refine dS st101 ?_
 obtain ⟨rfl, N101q, e101⟩ := hQ101
 have N101 := Fr.app N0 N101q
 show Aq T101 16 #[vi p1, vi 1, vu, vu, vu] [(.int (F22 p1))]
 refine sN X101 hx hby d27_16 (l' := #[vi p1, vi 1, vi (F22 p1), vu, vu]) rfl ?_
 refine iN X101 hx hby d27_17 rfl ?_
 obtain ⟨v102, T102, L102, X102, hQ102, st102⟩ := cS X101 hx hZ hown (tw152 hw) (tw153 hw) (tw154 hw) (tw155 hw) (rm22 l Z a0 hw [] (1 : Int32) h0 n0 Z0 ) (W := 0) e101 (g := (mkF m 18 #[vi p1, vi 1, vi (F22 p1), vu, vu] [(.int 1)])) rfl hml rfl (argsL := [(.int 1)]) (rest := []) (lenOf pd_0 rfl) rfl rfl rfl (hb hby d27_18) rfl
 refine dS st102 ?_
 obtain ⟨rfl, N102q, e102⟩ := hQ102
 have N102 := Fr.app N101 N102q
 show Aq T102 21 #[vi p1, vi 1, vi (F22 p1), vu, vu] [(.int (F22 (1 : Int32)))]
 refine sN X102 hx hby d27_21 (l' := #[vi p1, vi 1, vi (F22 p1), vi (F22 (1 : Int32)), vu]) rfl ?_
 refine iN X102 hx hby d27_22 rfl ?_
 refine iN X102 hx hby d27_23 rfl ?_
 refine iU X102 hx hby d27_24 ?_
 refine sN X102 hx hby d27_25 (l' := #[vi ((p1.toUInt32 >>> ((F22 p1) &&& 31).toUInt32).toInt32), vi 1, vi (F22 p1), vi (F22 (1 : Int32)), vu]) rfl ?_
 refine iN X102 hx hby d27_26 rfl ?_
 refine iN X102 hx hby d27_27 rfl ?_
 refine iU X102 hx hby d27_28 ?_
 refine sN X102 hx hby d27_29 (l' := #[vi ((p1.toUInt32 >>> ((F22 p1) &&& 31).toUInt32).toInt32), vi (((1 : Int32).toUInt32 >>> ((F22 (1 : Int32)) &&& 31).toUInt32).toInt32), vi (F22 p1), vi (F22 (1 : Int32)), vu]) rfl ?_
 refine iN X102 hx hby d27_30 rfl ?_
 refine iN X102 hx hby d27_31 rfl ?_
 refine cY X102 hx hby d27_32 (pc' := 39) (flt (own_ntn h1)).2.1 (H := ?_)
 refine iN X102 hx hby d27_39 rfl ?_
 refine sL X102 hx hby d27_40 (l' := #[vi ((p1.toUInt32 >>> ((F22 p1) &&& 31).toUInt32).toInt32), vi (((1 : Int32).toUInt32 >>> ((F22 (1 : Int32)) &&& 31).toUInt32).toInt32), vi (F22 p1), vi (F22 (1 : Int32)), vi (F22 (1 : Int32))]) rfl ?_
 rw [show (((1 : Int32).toUInt32 >>> ((F22 (1 : Int32)) &&& 31).toUInt32).toInt32) = (1 : Int32) from by decide +kernel]
 have q0 := own_f1
 generalize dz : (F22 (1 : Int32)) = z at q0 ⊢
 subst q0
 exact lpbg (F22 p1) (0 : Int32) hx hZ hw hby hml hown hlk hret hnm (U ((p1.toUInt32 >>> ((F22 p1) &&& 31).toUInt32).toInt32) + 1)  T102 _ ((p1.toUInt32 >>> ((F22 p1) &&& 31).toUInt32).toInt32) X102 N102 Z0 e102 (Nat.lt_succ_self _) (own_first h1)
theorem tb65536 : (65536 : Int32).toInt = 65536 := by decide
theorem tb256 : (256 : Int32).toInt = 256 := by decide
theorem tb16 : (16 : Int32).toInt = 16 := by decide
theorem tb4 : (4 : Int32).toInt = 4 := by decide
theorem own_nlzl {p t K : Int32} (S z : Nat) (hS : S + z = 31) (hK : K.toInt = (z : Int)) (h1 : 1 ≤ t.toInt) (h4 : t.toInt < 4) (hl : t.toInt * ((2 ^ S : Nat) : Int) ≤ p.toInt) (hu : p.toInt < (t.toInt + 1) * ((2 ^ S : Nat) : Int)) (hz : 1 ≤ z) : ∃ z : Nat, z < 32 ∧ (K - ((t.toUInt32 >>> ((1 : Int32) &&& 31).toUInt32).toInt32)).toInt = (z : Int) ∧ ((2 ^ (31 - z) : Nat) : Int) ≤ p.toInt ∧ p.toInt < ((2 ^ (32 - z) : Nat) : Int) := by
 have hs := c_iushr t (1 : Int32) 1 (by decide) (by decide)
 have hd := c_isub K ((t.toUInt32 >>> ((1 : Int32) &&& 31).toUInt32).toInt32)
 have hr := rng32 (K - ((t.toUInt32 >>> ((1 : Int32) &&& 31).toUInt32).toInt32))
 rw [show ((2 ^ 1 : Nat) : Int) = 2 from rfl] at hs
 have hp : 0 < 2 ^ S := Nat.two_pow_pos S
 have e1 : 2 ^ (31 - z) = 2 ^ S := by rw [show 31 - z = S by omega]
 have e2 : 2 ^ (32 - z) = 2 * 2 ^ S := by rw [show 32 - z = S + 1 by omega, Nat.pow_succ, Nat.mul_comm]
 have e3 : 2 ^ (31 - (z - 1)) = 2 * 2 ^ S := by rw [show 31 - (z - 1) = S + 1 by omega, Nat.pow_succ, Nat.mul_comm]
 have e4 : 2 ^ (32 - (z - 1)) = 4 * 2 ^ S := by rw [show 32 - (z - 1) = S + 1 + 1 by omega, Nat.pow_succ, Nat.pow_succ]; omega
 generalize 2 ^ S = P at *
 obtain h | h | h : t.toInt = 1 ∨ t.toInt = 2 ∨ t.toInt = 3 := by omega
 ·rw [h] at hl hu hs; exact ⟨z, by omega, by omega, by rw [e1]; omega, by rw [e2]; omega⟩
 ·rw [h] at hl hu hs; exact ⟨z - 1, by omega, by omega, by rw [e3]; omega, by rw [e4]; omega⟩
 ·rw [h] at hl hu hs; exact ⟨z - 1, by omega, by omega, by rw [e3]; omega, by rw [e4]; omega⟩
theorem own_nlz {p1 : Int32} (h : (0 : Int32) < p1) : ∃ z : Nat, z < 32 ∧ (F25 p1).toInt = (z : Int) ∧ ((2 ^ (31 - z) : Nat) : Int) ≤ p1.toInt ∧ p1.toInt < ((2 ^ (32 - z) : Nat) : Int) := by
 have h0 := Int32.lt_iff_toInt_lt.mp h
 have z0 : (0 : Int32).toInt = 0 := rfl
 have rr := rng32 p1
 rw [z0] at h0
 unfold F25
 rw [if_pos h]
 by_cases c0 : p1 < (65536 : Int32)
 ·rw [if_pos c0]
  have g0 := tb65536 ▸ Int32.lt_iff_toInt_lt.mp c0
  by_cases c1 : p1 < (256 : Int32)
  ·rw [if_pos c1]
   have g1 := tb256 ▸ Int32.lt_iff_toInt_lt.mp c1
   by_cases c2 : p1 < (16 : Int32)
   ·rw [if_pos c2]
    have g2 := tb16 ▸ Int32.lt_iff_toInt_lt.mp c2
    by_cases c3 : p1 < (4 : Int32)
    ·rw [if_pos c3]
     have g3 := tb4 ▸ Int32.lt_iff_toInt_lt.mp c3
     exact own_nlzl 0 31 (by decide) (by decide) (by omega) (by omega) (by show _ * ((1 : Nat) : Int) ≤ _; omega) (by show _ < _ * ((1 : Nat) : Int); omega) (by decide)
    ·rw [if_neg c3]
     have g3 := tb4 ▸ Int.not_lt.mp (fun q => c3 (Int32.lt_iff_toInt_lt.mpr q))
     have y3 := c_iushr p1 (2 : Int32) 2 (by decide) (by decide)
     exact own_nlzl 2 29 (by decide) (by decide) (by omega) (by omega) (by show _ * ((4 : Nat) : Int) ≤ _; omega) (by show _ < _ * ((4 : Nat) : Int); omega) (by decide)
   ·rw [if_neg c2]
    have g2 := tb16 ▸ Int.not_lt.mp (fun q => c2 (Int32.lt_iff_toInt_lt.mpr q))
    have y2 := c_iushr p1 (4 : Int32) 4 (by decide) (by decide)
    by_cases c3 : ((p1.toUInt32 >>> ((4 : Int32) &&& 31).toUInt32).toInt32) < (4 : Int32)
    ·rw [if_pos c3]
     have g3 := tb4 ▸ Int32.lt_iff_toInt_lt.mp c3
     exact own_nlzl 4 27 (by decide) (by decide) (by omega) (by omega) (by show _ * ((16 : Nat) : Int) ≤ _; omega) (by show _ < _ * ((16 : Nat) : Int); omega) (by decide)
    ·rw [if_neg c3]
     have g3 := tb4 ▸ Int.not_lt.mp (fun q => c3 (Int32.lt_iff_toInt_lt.mpr q))
     have y3 := c_iushr ((p1.toUInt32 >>> ((4 : Int32) &&& 31).toUInt32).toInt32) (2 : Int32) 2 (by decide) (by decide)
     exact own_nlzl 6 25 (by decide) (by decide) (by omega) (by omega) (by show _ * ((64 : Nat) : Int) ≤ _; omega) (by show _ < _ * ((64 : Nat) : Int); omega) (by decide)
  ·rw [if_neg c1]
   have g1 := tb256 ▸ Int.not_lt.mp (fun q => c1 (Int32.lt_iff_toInt_lt.mpr q))
   have y1 := c_iushr p1 (8 : Int32) 8 (by decide) (by decide)
   by_cases c2 : ((p1.toUInt32 >>> ((8 : Int32) &&& 31).toUInt32).toInt32) < (16 : Int32)
   ·rw [if_pos c2]
    have g2 := tb16 ▸ Int32.lt_iff_toInt_lt.mp c2
    by_cases c3 : ((p1.toUInt32 >>> ((8 : Int32) &&& 31).toUInt32).toInt32) < (4 : Int32)
    ·rw [if_pos c3]
     have g3 := tb4 ▸ Int32.lt_iff_toInt_lt.mp c3
     exact own_nlzl 8 23 (by decide) (by decide) (by omega) (by omega) (by show _ * ((256 : Nat) : Int) ≤ _; omega) (by show _ < _ * ((256 : Nat) : Int); omega) (by decide)
    ·rw [if_neg c3]
     have g3 := tb4 ▸ Int.not_lt.mp (fun q => c3 (Int32.lt_iff_toInt_lt.mpr q))
     have y3 := c_iushr ((p1.toUInt32 >>> ((8 : Int32) &&& 31).toUInt32).toInt32) (2 : Int32) 2 (by decide) (by decide)
     exact own_nlzl 10 21 (by decide) (by decide) (by omega) (by omega) (by show _ * ((1024 : Nat) : Int) ≤ _; omega) (by show _ < _ * ((1024 : Nat) : Int); omega) (by decide)
   ·rw [if_neg c2]
    have g2 := tb16 ▸ Int.not_lt.mp (fun q => c2 (Int32.lt_iff_toInt_lt.mpr q))
    have y2 := c_iushr ((p1.toUInt32 >>> ((8 : Int32) &&& 31).toUInt32).toInt32) (4 : Int32) 4 (by decide) (by decide)
    by_cases c3 : ((((p1.toUInt32 >>> ((8 : Int32) &&& 31).toUInt32).toInt32).toUInt32 >>> ((4 : Int32) &&& 31).toUInt32).toInt32) < (4 : Int32)
    ·rw [if_pos c3]
     have g3 := tb4 ▸ Int32.lt_iff_toInt_lt.mp c3
     exact own_nlzl 12 19 (by decide) (by decide) (by omega) (by omega) (by show _ * ((4096 : Nat) : Int) ≤ _; omega) (by show _ < _ * ((4096 : Nat) : Int); omega) (by decide)
    ·rw [if_neg c3]
     have g3 := tb4 ▸ Int.not_lt.mp (fun q => c3 (Int32.lt_iff_toInt_lt.mpr q))
     have y3 := c_iushr ((((p1.toUInt32 >>> ((8 : Int32) &&& 31).toUInt32).toInt32).toUInt32 >>> ((4 : Int32) &&& 31).toUInt32).toInt32) (2 : Int32) 2 (by decide) (by decide)
     exact own_nlzl 14 17 (by decide) (by decide) (by omega) (by omega) (by show _ * ((16384 : Nat) : Int) ≤ _; omega) (by show _ < _ * ((16384 : Nat) : Int); omega) (by decide)
 ·rw [if_neg c0]
  have g0 := tb65536 ▸ Int.not_lt.mp (fun q => c0 (Int32.lt_iff_toInt_lt.mpr q))
  have y0 := c_iushr p1 (16 : Int32) 16 (by decide) (by decide)
  by_cases c1 : ((p1.toUInt32 >>> ((16 : Int32) &&& 31).toUInt32).toInt32) < (256 : Int32)
  ·rw [if_pos c1]
   have g1 := tb256 ▸ Int32.lt_iff_toInt_lt.mp c1
   by_cases c2 : ((p1.toUInt32 >>> ((16 : Int32) &&& 31).toUInt32).toInt32) < (16 : Int32)
   ·rw [if_pos c2]
    have g2 := tb16 ▸ Int32.lt_iff_toInt_lt.mp c2
    by_cases c3 : ((p1.toUInt32 >>> ((16 : Int32) &&& 31).toUInt32).toInt32) < (4 : Int32)
    ·rw [if_pos c3]
     have g3 := tb4 ▸ Int32.lt_iff_toInt_lt.mp c3
     exact own_nlzl 16 15 (by decide) (by decide) (by omega) (by omega) (by show _ * ((65536 : Nat) : Int) ≤ _; omega) (by show _ < _ * ((65536 : Nat) : Int); omega) (by decide)
    ·rw [if_neg c3]
     have g3 := tb4 ▸ Int.not_lt.mp (fun q => c3 (Int32.lt_iff_toInt_lt.mpr q))
     have y3 := c_iushr ((p1.toUInt32 >>> ((16 : Int32) &&& 31).toUInt32).toInt32) (2 : Int32) 2 (by decide) (by decide)
     exact own_nlzl 18 13 (by decide) (by decide) (by omega) (by omega) (by show _ * ((262144 : Nat) : Int) ≤ _; omega) (by show _ < _ * ((262144 : Nat) : Int); omega) (by decide)
   ·rw [if_neg c2]
    have g2 := tb16 ▸ Int.not_lt.mp (fun q => c2 (Int32.lt_iff_toInt_lt.mpr q))
    have y2 := c_iushr ((p1.toUInt32 >>> ((16 : Int32) &&& 31).toUInt32).toInt32) (4 : Int32) 4 (by decide) (by decide)
    by_cases c3 : ((((p1.toUInt32 >>> ((16 : Int32) &&& 31).toUInt32).toInt32).toUInt32 >>> ((4 : Int32) &&& 31).toUInt32).toInt32) < (4 : Int32)
    ·rw [if_pos c3]
     have g3 := tb4 ▸ Int32.lt_iff_toInt_lt.mp c3
     exact own_nlzl 20 11 (by decide) (by decide) (by omega) (by omega) (by show _ * ((1048576 : Nat) : Int) ≤ _; omega) (by show _ < _ * ((1048576 : Nat) : Int); omega) (by decide)
    ·rw [if_neg c3]
     have g3 := tb4 ▸ Int.not_lt.mp (fun q => c3 (Int32.lt_iff_toInt_lt.mpr q))
     have y3 := c_iushr ((((p1.toUInt32 >>> ((16 : Int32) &&& 31).toUInt32).toInt32).toUInt32 >>> ((4 : Int32) &&& 31).toUInt32).toInt32) (2 : Int32) 2 (by decide) (by decide)
     exact own_nlzl 22 9 (by decide) (by decide) (by omega) (by omega) (by show _ * ((4194304 : Nat) : Int) ≤ _; omega) (by show _ < _ * ((4194304 : Nat) : Int); omega) (by decide)
  ·rw [if_neg c1]
   have g1 := tb256 ▸ Int.not_lt.mp (fun q => c1 (Int32.lt_iff_toInt_lt.mpr q))
   have y1 := c_iushr ((p1.toUInt32 >>> ((16 : Int32) &&& 31).toUInt32).toInt32) (8 : Int32) 8 (by decide) (by decide)
   by_cases c2 : ((((p1.toUInt32 >>> ((16 : Int32) &&& 31).toUInt32).toInt32).toUInt32 >>> ((8 : Int32) &&& 31).toUInt32).toInt32) < (16 : Int32)
   ·rw [if_pos c2]
    have g2 := tb16 ▸ Int32.lt_iff_toInt_lt.mp c2
    by_cases c3 : ((((p1.toUInt32 >>> ((16 : Int32) &&& 31).toUInt32).toInt32).toUInt32 >>> ((8 : Int32) &&& 31).toUInt32).toInt32) < (4 : Int32)
    ·rw [if_pos c3]
     have g3 := tb4 ▸ Int32.lt_iff_toInt_lt.mp c3
     exact own_nlzl 24 7 (by decide) (by decide) (by omega) (by omega) (by show _ * ((16777216 : Nat) : Int) ≤ _; omega) (by show _ < _ * ((16777216 : Nat) : Int); omega) (by decide)
    ·rw [if_neg c3]
     have g3 := tb4 ▸ Int.not_lt.mp (fun q => c3 (Int32.lt_iff_toInt_lt.mpr q))
     have y3 := c_iushr ((((p1.toUInt32 >>> ((16 : Int32) &&& 31).toUInt32).toInt32).toUInt32 >>> ((8 : Int32) &&& 31).toUInt32).toInt32) (2 : Int32) 2 (by decide) (by decide)
     exact own_nlzl 26 5 (by decide) (by decide) (by omega) (by omega) (by show _ * ((67108864 : Nat) : Int) ≤ _; omega) (by show _ < _ * ((67108864 : Nat) : Int); omega) (by decide)
   ·rw [if_neg c2]
    have g2 := tb16 ▸ Int.not_lt.mp (fun q => c2 (Int32.lt_iff_toInt_lt.mpr q))
    have y2 := c_iushr ((((p1.toUInt32 >>> ((16 : Int32) &&& 31).toUInt32).toInt32).toUInt32 >>> ((8 : Int32) &&& 31).toUInt32).toInt32) (4 : Int32) 4 (by decide) (by decide)
    by_cases c3 : ((((((p1.toUInt32 >>> ((16 : Int32) &&& 31).toUInt32).toInt32).toUInt32 >>> ((8 : Int32) &&& 31).toUInt32).toInt32).toUInt32 >>> ((4 : Int32) &&& 31).toUInt32).toInt32) < (4 : Int32)
    ·rw [if_pos c3]
     have g3 := tb4 ▸ Int32.lt_iff_toInt_lt.mp c3
     exact own_nlzl 28 3 (by decide) (by decide) (by omega) (by omega) (by show _ * ((268435456 : Nat) : Int) ≤ _; omega) (by show _ < _ * ((268435456 : Nat) : Int); omega) (by decide)
    ·rw [if_neg c3]
     have g3 := tb4 ▸ Int.not_lt.mp (fun q => c3 (Int32.lt_iff_toInt_lt.mpr q))
     have y3 := c_iushr ((((((p1.toUInt32 >>> ((16 : Int32) &&& 31).toUInt32).toInt32).toUInt32 >>> ((8 : Int32) &&& 31).toUInt32).toInt32).toUInt32 >>> ((4 : Int32) &&& 31).toUInt32).toInt32) (2 : Int32) 2 (by decide) (by decide)
     exact own_nlzl 30 1 (by decide) (by decide) (by omega) (by omega) (by show _ * ((1073741824 : Nat) : Int) ≤ _; omega) (by show _ < _ * ((1073741824 : Nat) : Int); omega) (by decide)
theorem own_upos {x : Int32} (h : 0 ≤ x.toInt) : (U x : Int) = x.toInt := by
 have u := own_ur x
 have l := U.lt x
 have r := rng32 x
 omega
theorem own_bl {x nb : Int32} {n : Nat} (hx : 1 ≤ U x) (hn : nb.toInt = (n : Int)) (h32 : n < 32) : nb < F24 x ↔ 2 ^ n ≤ U x := by
 rw [Int32.lt_iff_toInt_lt]
 unfold F24
 have e32 : (32 : Int32).toInt = 32 := rfl
 by_cases h : (0 : Int32) < x
 ·obtain ⟨z, hz, e, l1, l2⟩ := own_nlz h
  have h0 := Int32.lt_iff_toInt_lt.mp h
  have z0 : (0 : Int32).toInt = 0 := rfl
  have u := own_upos (x := x) (by omega)
  have c1 := c_isub (32 : Int32) (F25 x)
  have r := rng32 ((32 : Int32) - F25 x)
  have es : ((32 : Int32) - F25 x).toInt = 32 - (z : Int) := by omega
  rw [es, hn]
  constructor
  ·intro q
   have : 2 ^ n ≤ 2 ^ (31 - z) := Nat.pow_le_pow_right (by decide) (by omega)
   omega
  ·intro q
   refine Int.not_le.mp fun g => ?_
   have : 2 ^ (32 - z) ≤ 2 ^ n := Nat.pow_le_pow_right (by decide) (by omega)
   omega
 ·have h0 := Int.not_lt.mp (fun q => h (Int32.lt_iff_toInt_lt.mpr q))
  have z0 : (0 : Int32).toInt = 0 := rfl
  have hne : ¬ x = (0 : Int32) := fun q => by rw [q] at hx; exact absurd hx (by decide)
  have hne' : ¬ x.toInt = 0 := fun q => hne (Int32.toInt_inj.mp q)
  have e : F25 x = (0 : Int32) := by unfold F25; rw [if_neg h, if_neg hne]
  have u := own_ur x
  have l := U.lt x
  have r := rng32 x
  have big : 2147483648 ≤ U x := by omega
  have p : 2 ^ n ≤ 2 ^ 31 := Nat.pow_le_pow_right (by decide) (by omega)
  rw [e, show ((32 : Int32) - (0 : Int32)).toInt = 32 from by decide, hn]
  constructor
  ·intro _; omega
  ·intro _; omega
theorem d21_0 : dq cd5 0 (.aload_n 0) 1 := by decide +kernel
theorem d21_1 : dq cd5 1 (.getfield 21) 3 := by decide +kernel
theorem d21_4 : dq cd5 4 (.ifCond .ne 5) 3 := by decide +kernel
theorem d21_9 : dq cd5 9 (.aload_n 0) 1 := by decide +kernel
theorem d21_10 : dq cd5 10 (.getfield 21) 3 := by decide +kernel
theorem d21_13 : dq cd5 13 (.iconst 1) 1 := by decide +kernel
theorem d21_14 : dq cd5 14 .isub 1 := by decide +kernel
theorem d21_15 : dq cd5 15 (.istore_n 1) 1 := by decide +kernel
theorem d21_16 : dq cd5 16 (.iload_n 1) 1 := by decide +kernel
theorem d21_17 : dq cd5 17 (.ifCond .le 23) 3 := by decide +kernel
theorem d21_40 : dq cd5 40 (.aload_n 0) 1 := by decide +kernel
theorem d21_41 : dq cd5 41 (.getfield 17) 3 := by decide +kernel
theorem d21_44 : dq cd5 44 (.iload_n 1) 1 := by decide +kernel
theorem d21_45 : dq cd5 45 (.aload_n 0) 1 := by decide +kernel
theorem d21_46 : dq cd5 46 (.getfield 11) 3 := by decide +kernel
theorem d21_49 : dq cd5 49 .iadd 1 := by decide +kernel
theorem d21_50 : dq cd5 50 .iaload 1 := by decide +kernel
theorem d21_51 : dq cd5 51 (.istore_n 2) 1 := by decide +kernel
theorem d21_52 : dq cd5 52 (.iload_n 2) 1 := by decide +kernel
theorem d21_53 : dq cd5 53 (.ifCond .ne 5) 3 := by decide +kernel
theorem d21_56 : dq cd5 56 (.iconst (-1)) 1 := by decide +kernel
theorem d21_57 : dq cd5 57 .ireturn 1 := by decide +kernel
theorem d21_58 : dq cd5 58 (.aload_n 0) 1 := by decide +kernel
theorem d21_59 : dq cd5 59 (.getfield 21) 3 := by decide +kernel
theorem d21_62 : dq cd5 62 (.iconst 1) 1 := by decide +kernel
theorem d21_63 : dq cd5 63 .isub 1 := by decide +kernel
theorem d21_64 : dq cd5 64 (.iload_n 1) 1 := by decide +kernel
theorem d21_65 : dq cd5 65 .isub 1 := by decide +kernel
theorem d21_66 : dq cd5 66 (.iconst 5) 1 := by decide +kernel
theorem d21_67 : dq cd5 67 .ishl 1 := by decide +kernel
theorem d21_68 : dq cd5 68 (.iload_n 2) 1 := by decide +kernel
theorem d21_69 : dq cd5 69 (.invokestatic 89) 3 := by decide +kernel
theorem d21_72 : dq cd5 72 .iadd 1 := by decide +kernel
theorem d21_73 : dq cd5 73 .ireturn 1 := by decide +kernel
def Grmg1a (w0 : Int32) : Int32 := (if w0 = (0 : Int32) then (-1 : Int32)
 else ((0 : Int32) + (F22 w0)))
theorem ef_21 (m : MethodId) (a1 : Addr) : entryFrame m #[(.ref a1)] 3 = mkF m 0 #[.val (.ref a1), .unset, .unset] [] := by first | (simp [entryFrame, mkF, argsToLocals, Value.category]; done) | rfl
theorem rmg1a (l : Launch) (Z : State) (a0 : Array Value) (hw : HH a0 Z) (ws : List Jvm.Cond) (a1 va : Addr) (w0 : Int32) (h0 : Heap) (n0 : Nat) (Z0 : n0 ≤ h0.size) (E : Fl3 Z h0 a1) (V : Fl0 Z h0 a1 (.ref va)) (N : Fl1 Z h0 a1 (.int 1)) (O : Fl2 Z h0 a1 (.int 0)) (A : Ax Z h0 va .int [(.int w0)]) : MF l "java/math/MutableBigInteger" "getLowestSetBit" "()I" jdk_2101_method_18_code 3 (some .int) ws ⟨1, 0, 0, 14⟩ Z h0 #[(.ref a1)] (fun v h L => v = some (.int (Grmg1a w0)) ∧ Fr n0 L ∧ h = h0) := by
 refine own_body (n0 := n0) (plainFor_of_name pn_27) (fun m => ef_21 m a1) ?_
 intro p e s m below meth c s₁ hZ hx hby hml hown hlk hret hnm X0 e0 N0
 show Aq s₁ 0 #[vr a1, vu, vu] []
 refine aN X0 hx hby d21_0 rfl rfl ?_
 obtain ⟨T101, X101, e101, st101⟩ := gF X0 hx hZ hown (tw112 hw) e0 N (g := (mkF m 1 #[vr a1, vu, vu] [(.ref a1)])) rfl rfl (hb hby d21_1)
 refine dS st101 ?_
 show Aq T101 4 #[vr a1, vu, vu] [(.int 1)]
 refine iY X101 hx hby d21_4 (pc' := 9) ((if0 _ _).trans (feq (by decide)).2) (H := ?_)
 refine aN X101 hx hby d21_9 rfl rfl ?_
 obtain ⟨T102, X102, e102, st102⟩ := gF X101 hx hZ hown (tw112 hw) e101 N (g := (mkF m 10 #[vr a1, vu, vu] [(.ref a1)])) rfl rfl (hb hby d21_10)
 refine dS st102 ?_
 show Aq T102 13 #[vr a1, vu, vu] [(.int 1)]
 refine iC X102 hx hby d21_13 (z := 1) rfl ?_
 refine iS X102 hx hby d21_14 ?_
 rw [show ((1 : Int32) - (1 : Int32)) = (0 : Int32) from by decide]
 refine sN X102 hx hby d21_15 (l' := #[vr a1, vi 0, vu]) rfl ?_
 refine iN X102 hx hby d21_16 rfl ?_
 refine iY X102 hx hby d21_17 (pc' := 40) ((if0 _ _).trans (flt (by decide)).2.2.2) (H := ?_)
 refine aN X102 hx hby d21_40 rfl rfl ?_
 obtain ⟨T103, X103, e103, st103⟩ := gF X102 hx hZ hown (tw127 hw) e102 V (g := (mkF m 41 #[vr a1, vi 0, vu] [(.ref a1)])) rfl rfl (hb hby d21_41)
 refine dS st103 ?_
 show Aq T103 44 #[vr a1, vi 0, vu] [(.ref va)]
 refine iN X103 hx hby d21_44 rfl ?_
 refine aN X103 hx hby d21_45 rfl rfl ?_
 obtain ⟨T104, X104, e104, st104⟩ := gF X103 hx hZ hown (tw108 hw) e103 O (g := (mkF m 46 #[vr a1, vi 0, vu] [(.ref a1), (.int 0), (.ref va)])) rfl rfl (hb hby d21_46)
 refine dS st104 ?_
 show Aq T104 49 #[vr a1, vi 0, vu] [(.int 0), (.int 0), (.ref va)]
 refine iA X104 hx hby d21_49 ?_
 rw [show ((0 : Int32) + (0 : Int32)) = (0 : Int32) from by decide]
 refine dS (ldI X104 hx hZ e104 A (j := (0 : Int32)) (x := (.int w0)) (by decide) rfl (g := (mkF m 50 #[vr a1, vi 0, vu] [(.int 0), (.ref va)])) rfl rfl (hb hby d21_50)) ?_
 show Aq T104 51 #[vr a1, vi 0, vu] [(.int w0)]
 refine sN X104 hx hby d21_51 (l' := #[vr a1, vi 0, vi w0]) rfl ?_
 refine iN X104 hx hby d21_52 rfl ?_
 by_cases c1 : w0 = (0 : Int32)
 ·refine iF X104 hx hby d21_53 ((if0 _ _).trans (teq c1).2) ?_
  refine iC X104 hx hby d21_56 (z := (-1)) rfl ?_
  exact Done.int X104 hx hlk hret (hb hby d21_57) (by decide) (by decide) ⟨by rw [show Grmg1a w0 = (-1 : Int32) from by unfold Grmg1a; rw [if_pos c1]], N0, e104⟩
 ·refine iY X104 hx hby d21_53 (pc' := 58) ((if0 _ _).trans (feq c1).2) (H := ?_)
  refine aN X104 hx hby d21_58 rfl rfl ?_
  obtain ⟨T105, X105, e105, st105⟩ := gF X104 hx hZ hown (tw112 hw) e104 N (g := (mkF m 59 #[vr a1, vi 0, vi w0] [(.ref a1)])) rfl rfl (hb hby d21_59)
  refine dS st105 ?_
  show Aq T105 62 #[vr a1, vi 0, vi w0] [(.int 1)]
  refine iC X105 hx hby d21_62 (z := 1) rfl ?_
  refine iS X105 hx hby d21_63 ?_
  rw [show ((1 : Int32) - (1 : Int32)) = (0 : Int32) from by decide]
  refine iN X105 hx hby d21_64 rfl ?_
  refine iS X105 hx hby d21_65 ?_
  rw [show ((0 : Int32) - (0 : Int32)) = (0 : Int32) from by decide]
  refine iC X105 hx hby d21_66 (z := 5) rfl ?_
  refine dS (fun t k => XS.ishl X105.here hx rfl (hb hby d21_67) rfl k) ?_
  show Aq T105 68 #[vr a1, vi 0, vi w0] [(.int ((0 : Int32) <<< ((5 : Int32) &&& 31)))]
  rw [show ((0 : Int32) <<< ((5 : Int32) &&& 31)) = (0 : Int32) from by decide]
  show Aq T105 68 #[vr a1, vi 0, vi w0] [(.int 0)]
  refine iN X105 hx hby d21_68 rfl ?_
  obtain ⟨v106, T106, L106, X106, hQ106, st106⟩ := cS X105 hx hZ hown (tw152 hw) (tw153 hw) (tw154 hw) (tw155 hw) (rm22 l Z a0 hw [] w0 h0 n0 Z0 ) (W := 1) e105 (g := (mkF m 69 #[vr a1, vi 0, vi w0] [(.int w0), (.int 0)])) rfl hml rfl (argsL := [(.int w0)]) (rest := [(.int 0)]) (lenOf pd_0 rfl) rfl rfl rfl (hb hby d21_69) rfl
  refine dS st106 ?_
  obtain ⟨rfl, N106q, e106⟩ := hQ106
  have N106 := Fr.app N0 N106q
  show Aq T106 72 #[vr a1, vi 0, vi w0] [(.int (F22 w0)), (.int 0)]
  refine iA X106 hx hby d21_72 ?_
  exact Done.int X106 hx hlk hret (hb hby d21_73) (by decide) (by decide) ⟨by rw [show Grmg1a w0 = ((0 : Int32) + (F22 w0)) from by unfold Grmg1a; rw [if_neg c1]], N106, e106⟩
theorem d21_20 : dq cd5 20 (.aload_n 0) 1 := by decide +kernel
theorem d21_21 : dq cd5 21 (.getfield 17) 3 := by decide +kernel
theorem d21_24 : dq cd5 24 (.iload_n 1) 1 := by decide +kernel
theorem d21_25 : dq cd5 25 (.aload_n 0) 1 := by decide +kernel
theorem d21_26 : dq cd5 26 (.getfield 11) 3 := by decide +kernel
theorem d21_29 : dq cd5 29 .iadd 1 := by decide +kernel
theorem d21_30 : dq cd5 30 .iaload 1 := by decide +kernel
theorem d21_31 : dq cd5 31 (.ifCond .ne 9) 3 := by decide +kernel
theorem d21_34 : dq cd5 34 (.iinc 1 (-1)) 3 := by decide +kernel
theorem d21_37 : dq cd5 37 (.goto (-21)) 3 := by decide +kernel
def Grmg2 (w0 w1 : Int32) : Int32 := (if w1 = (0 : Int32) then (if w0 = (0 : Int32) then (-1 : Int32)
  else ((32 : Int32) + (F22 w0)))
 else ((0 : Int32) + (F22 w1)))
theorem rmg2 (l : Launch) (Z : State) (a0 : Array Value) (hw : HH a0 Z) (ws : List Jvm.Cond) (a1 va : Addr) (w0 w1 : Int32) (h0 : Heap) (n0 : Nat) (Z0 : n0 ≤ h0.size) (E : Fl3 Z h0 a1) (V : Fl0 Z h0 a1 (.ref va)) (N : Fl1 Z h0 a1 (.int 2)) (O : Fl2 Z h0 a1 (.int 0)) (A : Ax Z h0 va .int [(.int w0), (.int w1)]) : MF l "java/math/MutableBigInteger" "getLowestSetBit" "()I" jdk_2101_method_18_code 3 (some .int) ws ⟨1, 0, 0, 14⟩ Z h0 #[(.ref a1)] (fun v h L => v = some (.int (Grmg2 w0 w1)) ∧ Fr n0 L ∧ h = h0) := by
 refine own_body (n0 := n0) (plainFor_of_name pn_27) (fun m => ef_21 m a1) ?_
 intro p e s m below meth c s₁ hZ hx hby hml hown hlk hret hnm X0 e0 N0
 show Aq s₁ 0 #[vr a1, vu, vu] []
 refine aN X0 hx hby d21_0 rfl rfl ?_
 obtain ⟨T101, X101, e101, st101⟩ := gF X0 hx hZ hown (tw112 hw) e0 N (g := (mkF m 1 #[vr a1, vu, vu] [(.ref a1)])) rfl rfl (hb hby d21_1)
 refine dS st101 ?_
 show Aq T101 4 #[vr a1, vu, vu] [(.int 2)]
 refine iY X101 hx hby d21_4 (pc' := 9) ((if0 _ _).trans (feq (by decide)).2) (H := ?_)
 refine aN X101 hx hby d21_9 rfl rfl ?_
 obtain ⟨T102, X102, e102, st102⟩ := gF X101 hx hZ hown (tw112 hw) e101 N (g := (mkF m 10 #[vr a1, vu, vu] [(.ref a1)])) rfl rfl (hb hby d21_10)
 refine dS st102 ?_
 show Aq T102 13 #[vr a1, vu, vu] [(.int 2)]
 refine iC X102 hx hby d21_13 (z := 1) rfl ?_
 refine iS X102 hx hby d21_14 ?_
 rw [show ((2 : Int32) - (1 : Int32)) = (1 : Int32) from by decide]
 refine sN X102 hx hby d21_15 (l' := #[vr a1, vi 1, vu]) rfl ?_
 refine iN X102 hx hby d21_16 rfl ?_
 refine iF X102 hx hby d21_17 ((if0 _ _).trans (tlt (by decide)).2.2.2) ?_
 refine aN X102 hx hby d21_20 rfl rfl ?_
 obtain ⟨T103, X103, e103, st103⟩ := gF X102 hx hZ hown (tw127 hw) e102 V (g := (mkF m 21 #[vr a1, vi 1, vu] [(.ref a1)])) rfl rfl (hb hby d21_21)
 refine dS st103 ?_
 show Aq T103 24 #[vr a1, vi 1, vu] [(.ref va)]
 refine iN X103 hx hby d21_24 rfl ?_
 refine aN X103 hx hby d21_25 rfl rfl ?_
 obtain ⟨T104, X104, e104, st104⟩ := gF X103 hx hZ hown (tw108 hw) e103 O (g := (mkF m 26 #[vr a1, vi 1, vu] [(.ref a1), (.int 1), (.ref va)])) rfl rfl (hb hby d21_26)
 refine dS st104 ?_
 show Aq T104 29 #[vr a1, vi 1, vu] [(.int 0), (.int 1), (.ref va)]
 refine iA X104 hx hby d21_29 ?_
 rw [show ((1 : Int32) + (0 : Int32)) = (1 : Int32) from by decide]
 refine dS (ldI X104 hx hZ e104 A (j := (1 : Int32)) (x := (.int w1)) (by decide) rfl (g := (mkF m 30 #[vr a1, vi 1, vu] [(.int 1), (.ref va)])) rfl rfl (hb hby d21_30)) ?_
 show Aq T104 31 #[vr a1, vi 1, vu] [(.int w1)]
 by_cases c1 : w1 = (0 : Int32)
 ·refine iF X104 hx hby d21_31 ((if0 _ _).trans (teq c1).2) ?_
  refine dS (fun t k => XS.iinc X104.here hx rfl (hb hby d21_34) rfl (l' := #[vr a1, vi ((1 : Int32) + (-1 : Int32)), vu]) rfl k) ?_
  show Aq T104 37 #[vr a1, vi ((1 : Int32) + (-1 : Int32)), vu] []
  rw [show ((1 : Int32) + (-1 : Int32)) = (0 : Int32) from by decide]
  show Aq T104 37 #[vr a1, vi 0, vu] []
  refine gO X104 hx hby d21_37 (pc' := 16) (H := ?_)
  refine iN X104 hx hby d21_16 rfl ?_
  refine iY X104 hx hby d21_17 (pc' := 40) ((if0 _ _).trans (flt (by decide)).2.2.2) (H := ?_)
  refine aN X104 hx hby d21_40 rfl rfl ?_
  obtain ⟨T105, X105, e105, st105⟩ := gF X104 hx hZ hown (tw127 hw) e104 V (g := (mkF m 41 #[vr a1, vi 0, vu] [(.ref a1)])) rfl rfl (hb hby d21_41)
  refine dS st105 ?_
  show Aq T105 44 #[vr a1, vi 0, vu] [(.ref va)]
  refine iN X105 hx hby d21_44 rfl ?_
  refine aN X105 hx hby d21_45 rfl rfl ?_
  obtain ⟨T106, X106, e106, st106⟩ := gF X105 hx hZ hown (tw108 hw) e105 O (g := (mkF m 46 #[vr a1, vi 0, vu] [(.ref a1), (.int 0), (.ref va)])) rfl rfl (hb hby d21_46)
  refine dS st106 ?_
  show Aq T106 49 #[vr a1, vi 0, vu] [(.int 0), (.int 0), (.ref va)]
  refine iA X106 hx hby d21_49 ?_
  rw [show ((0 : Int32) + (0 : Int32)) = (0 : Int32) from by decide]
  refine dS (ldI X106 hx hZ e106 A (j := (0 : Int32)) (x := (.int w0)) (by decide) rfl (g := (mkF m 50 #[vr a1, vi 0, vu] [(.int 0), (.ref va)])) rfl rfl (hb hby d21_50)) ?_
  show Aq T106 51 #[vr a1, vi 0, vu] [(.int w0)]
  refine sN X106 hx hby d21_51 (l' := #[vr a1, vi 0, vi w0]) rfl ?_
  refine iN X106 hx hby d21_52 rfl ?_
  by_cases c2 : w0 = (0 : Int32)
  ·refine iF X106 hx hby d21_53 ((if0 _ _).trans (teq c2).2) ?_
   refine iC X106 hx hby d21_56 (z := (-1)) rfl ?_
   exact Done.int X106 hx hlk hret (hb hby d21_57) (by decide) (by decide) ⟨by rw [show Grmg2 w0 w1 = (-1 : Int32) from by unfold Grmg2; rw [if_pos c1, if_pos c2]], N0, e106⟩
  ·refine iY X106 hx hby d21_53 (pc' := 58) ((if0 _ _).trans (feq c2).2) (H := ?_)
   refine aN X106 hx hby d21_58 rfl rfl ?_
   obtain ⟨T107, X107, e107, st107⟩ := gF X106 hx hZ hown (tw112 hw) e106 N (g := (mkF m 59 #[vr a1, vi 0, vi w0] [(.ref a1)])) rfl rfl (hb hby d21_59)
   refine dS st107 ?_
   show Aq T107 62 #[vr a1, vi 0, vi w0] [(.int 2)]
   refine iC X107 hx hby d21_62 (z := 1) rfl ?_
   refine iS X107 hx hby d21_63 ?_
   rw [show ((2 : Int32) - (1 : Int32)) = (1 : Int32) from by decide]
   refine iN X107 hx hby d21_64 rfl ?_
   refine iS X107 hx hby d21_65 ?_
   rw [show ((1 : Int32) - (0 : Int32)) = (1 : Int32) from by decide]
   refine iC X107 hx hby d21_66 (z := 5) rfl ?_
   refine dS (fun t k => XS.ishl X107.here hx rfl (hb hby d21_67) rfl k) ?_
   show Aq T107 68 #[vr a1, vi 0, vi w0] [(.int ((1 : Int32) <<< ((5 : Int32) &&& 31)))]
   rw [show ((1 : Int32) <<< ((5 : Int32) &&& 31)) = (32 : Int32) from by decide]
   show Aq T107 68 #[vr a1, vi 0, vi w0] [(.int 32)]
   refine iN X107 hx hby d21_68 rfl ?_
   obtain ⟨v108, T108, L108, X108, hQ108, st108⟩ := cS X107 hx hZ hown (tw152 hw) (tw153 hw) (tw154 hw) (tw155 hw) (rm22 l Z a0 hw [] w0 h0 n0 Z0 ) (W := 1) e107 (g := (mkF m 69 #[vr a1, vi 0, vi w0] [(.int w0), (.int 32)])) rfl hml rfl (argsL := [(.int w0)]) (rest := [(.int 32)]) (lenOf pd_0 rfl) rfl rfl rfl (hb hby d21_69) rfl
   refine dS st108 ?_
   obtain ⟨rfl, N108q, e108⟩ := hQ108
   have N108 := Fr.app N0 N108q
   show Aq T108 72 #[vr a1, vi 0, vi w0] [(.int (F22 w0)), (.int 32)]
   refine iA X108 hx hby d21_72 ?_
   exact Done.int X108 hx hlk hret (hb hby d21_73) (by decide) (by decide) ⟨by rw [show Grmg2 w0 w1 = ((32 : Int32) + (F22 w0)) from by unfold Grmg2; rw [if_pos c1, if_neg c2]], N108, e108⟩
 ·refine iY X104 hx hby d21_31 (pc' := 40) ((if0 _ _).trans (feq c1).2) (H := ?_)
  refine aN X104 hx hby d21_40 rfl rfl ?_
  obtain ⟨T109, X109, e109, st109⟩ := gF X104 hx hZ hown (tw127 hw) e104 V (g := (mkF m 41 #[vr a1, vi 1, vu] [(.ref a1)])) rfl rfl (hb hby d21_41)
  refine dS st109 ?_
  show Aq T109 44 #[vr a1, vi 1, vu] [(.ref va)]
  refine iN X109 hx hby d21_44 rfl ?_
  refine aN X109 hx hby d21_45 rfl rfl ?_
  obtain ⟨T110, X110, e110, st110⟩ := gF X109 hx hZ hown (tw108 hw) e109 O (g := (mkF m 46 #[vr a1, vi 1, vu] [(.ref a1), (.int 1), (.ref va)])) rfl rfl (hb hby d21_46)
  refine dS st110 ?_
  show Aq T110 49 #[vr a1, vi 1, vu] [(.int 0), (.int 1), (.ref va)]
  refine iA X110 hx hby d21_49 ?_
  rw [show ((1 : Int32) + (0 : Int32)) = (1 : Int32) from by decide]
  refine dS (ldI X110 hx hZ e110 A (j := (1 : Int32)) (x := (.int w1)) (by decide) rfl (g := (mkF m 50 #[vr a1, vi 1, vu] [(.int 1), (.ref va)])) rfl rfl (hb hby d21_50)) ?_
  show Aq T110 51 #[vr a1, vi 1, vu] [(.int w1)]
  refine sN X110 hx hby d21_51 (l' := #[vr a1, vi 1, vi w1]) rfl ?_
  refine iN X110 hx hby d21_52 rfl ?_
  refine iY X110 hx hby d21_53 (pc' := 58) ((if0 _ _).trans (feq c1).2) (H := ?_)
  refine aN X110 hx hby d21_58 rfl rfl ?_
  obtain ⟨T111, X111, e111, st111⟩ := gF X110 hx hZ hown (tw112 hw) e110 N (g := (mkF m 59 #[vr a1, vi 1, vi w1] [(.ref a1)])) rfl rfl (hb hby d21_59)
  refine dS st111 ?_
  show Aq T111 62 #[vr a1, vi 1, vi w1] [(.int 2)]
  refine iC X111 hx hby d21_62 (z := 1) rfl ?_
  refine iS X111 hx hby d21_63 ?_
  rw [show ((2 : Int32) - (1 : Int32)) = (1 : Int32) from by decide]
  refine iN X111 hx hby d21_64 rfl ?_
  refine iS X111 hx hby d21_65 ?_
  rw [show ((1 : Int32) - (1 : Int32)) = (0 : Int32) from by decide]
  refine iC X111 hx hby d21_66 (z := 5) rfl ?_
  refine dS (fun t k => XS.ishl X111.here hx rfl (hb hby d21_67) rfl k) ?_
  show Aq T111 68 #[vr a1, vi 1, vi w1] [(.int ((0 : Int32) <<< ((5 : Int32) &&& 31)))]
  rw [show ((0 : Int32) <<< ((5 : Int32) &&& 31)) = (0 : Int32) from by decide]
  show Aq T111 68 #[vr a1, vi 1, vi w1] [(.int 0)]
  refine iN X111 hx hby d21_68 rfl ?_
  obtain ⟨v112, T112, L112, X112, hQ112, st112⟩ := cS X111 hx hZ hown (tw152 hw) (tw153 hw) (tw154 hw) (tw155 hw) (rm22 l Z a0 hw [] w1 h0 n0 Z0 ) (W := 1) e111 (g := (mkF m 69 #[vr a1, vi 1, vi w1] [(.int w1), (.int 0)])) rfl hml rfl (argsL := [(.int w1)]) (rest := [(.int 0)]) (lenOf pd_0 rfl) rfl rfl rfl (hb hby d21_69) rfl
  refine dS st112 ?_
  obtain ⟨rfl, N112q, e112⟩ := hQ112
  have N112 := Fr.app N0 N112q
  show Aq T112 72 #[vr a1, vi 1, vi w1] [(.int (F22 w1)), (.int 0)]
  refine iA X112 hx hby d21_72 ?_
  exact Done.int X112 hx hlk hret (hb hby d21_73) (by decide) (by decide) ⟨by rw [show Grmg2 w0 w1 = ((0 : Int32) + (F22 w1)) from by unfold Grmg2; rw [if_neg c1]], N112, e112⟩
theorem d26_0 : dq cd6 0 (.aload_n 0) 1 := by decide +kernel
theorem d26_1 : dq cd6 1 (.getfield 17) 3 := by decide +kernel
theorem d26_4 : dq cd6 4 (.astore_n 2) 1 := by decide +kernel
theorem d26_5 : dq cd6 5 (.bipush 32) 2 := by decide +kernel
theorem d26_7 : dq cd6 7 (.iload_n 1) 1 := by decide +kernel
theorem d26_8 : dq cd6 8 .isub 1 := by decide +kernel
theorem d26_9 : dq cd6 9 (.istore_n 3) 1 := by decide +kernel
theorem d26_10 : dq cd6 10 (.aload_n 0) 1 := by decide +kernel
theorem d26_11 : dq cd6 11 (.getfield 11) 3 := by decide +kernel
theorem d26_14 : dq cd6 14 (.aload_n 0) 1 := by decide +kernel
theorem d26_15 : dq cd6 15 (.getfield 21) 3 := by decide +kernel
theorem d26_18 : dq cd6 18 .iadd 1 := by decide +kernel
theorem d26_19 : dq cd6 19 (.iconst 1) 1 := by decide +kernel
theorem d26_20 : dq cd6 20 .isub 1 := by decide +kernel
theorem d26_21 : dq cd6 21 (.istore 4) 2 := by decide +kernel
theorem d26_23 : dq cd6 23 (.aload_n 2) 1 := by decide +kernel
theorem d26_24 : dq cd6 24 (.iload 4) 2 := by decide +kernel
theorem d26_26 : dq cd6 26 .iaload 1 := by decide +kernel
theorem d26_27 : dq cd6 27 (.istore 5) 2 := by decide +kernel
theorem d26_29 : dq cd6 29 (.iload 4) 2 := by decide +kernel
theorem d26_31 : dq cd6 31 (.aload_n 0) 1 := by decide +kernel
theorem d26_32 : dq cd6 32 (.getfield 11) 3 := by decide +kernel
theorem d26_35 : dq cd6 35 (.if_icmp .le 34) 3 := by decide +kernel
theorem d26_69 : dq cd6 69 (.aload_n 2) 1 := by decide +kernel
theorem d26_70 : dq cd6 70 (.aload_n 0) 1 := by decide +kernel
theorem d26_71 : dq cd6 71 (.getfield 11) 3 := by decide +kernel
theorem d26_74 : dq cd6 74 .dup2 1 := by decide +kernel
theorem d26_75 : dq cd6 75 .iaload 1 := by decide +kernel
theorem d26_76 : dq cd6 76 (.iload_n 1) 1 := by decide +kernel
theorem d26_77 : dq cd6 77 .iushr 1 := by decide +kernel
theorem d26_78 : dq cd6 78 .iastore 1 := by decide +kernel
theorem d26_79 : dq cd6 79 .return_ 1 := by decide +kernel
theorem ef_26 (m : MethodId) (a1 : Addr) (p2 : Int32) : entryFrame m #[(.ref a1), (.int p2)] 7 = mkF m 0 #[.val (.ref a1), .val (.int p2), .unset, .unset, .unset, .unset, .unset] [] := by first | (simp [entryFrame, mkF, argsToLocals, Value.category]; done) | rfl
theorem rmpr11 (l : Launch) (Z : State) (a0 : Array Value) (hw : HH a0 Z) (ws : List Jvm.Cond) (a1 : Addr) (p2 : Int32) (va : Addr) (w0 : Int32) (h0 : Heap) (n0 : Nat) (Z0 : n0 ≤ h0.size) (E : Fl3 Z h0 a1) (V : Fl0 Z h0 a1 (.ref va)) (N : Fl1 Z h0 a1 (.int 1)) (O : Fl2 Z h0 a1 (.int 0)) (A : Ax Z h0 va .int [(.int w0)]) (gv : n0 ≤ va) (nav : a1 ≠ va) : MF l "java/math/MutableBigInteger" "primitiveRightShift" "(I)V" jdk_2101_method_41_code 7 none ws ⟨0, 0, 0, 0⟩ Z h0 #[(.ref a1), (.int p2)] (fun v h L => v = none ∧ Fr n0 L ∧ Keep h0 h [va] ∧ Ax Z h va .int [(.int ((w0.toUInt32 >>> (p2 &&& 31).toUInt32).toInt32))]) := by
 refine own_body (n0 := n0) (plainFor_of_name pn_27) (fun m => ef_26 m a1 p2) ?_
 intro p e s m below meth c s₁ hZ hx hby hml hown hlk hret hnm X0 e0 N0
 show Aq s₁ 0 #[vr a1, vi p2, vu, vu, vu, vu, vu] []
 refine aN X0 hx hby d26_0 rfl rfl ?_
 obtain ⟨T101, X101, e101, st101⟩ := gF X0 hx hZ hown (tw127 hw) e0 V (g := (mkF m 1 #[vr a1, vi p2, vu, vu, vu, vu, vu] [(.ref a1)])) rfl rfl (hb hby d26_1)
 refine dS st101 ?_
 show Aq T101 4 #[vr a1, vi p2, vu, vu, vu, vu, vu] [(.ref va)]
 refine aT X101 hx hby d26_4 rfl (l' := #[vr a1, vi p2, vr va, vu, vu, vu, vu]) rfl ?_
 refine iB X101 hx hby d26_5 (z := 32) rfl ?_
 refine iN X101 hx hby d26_7 rfl ?_
 refine iS X101 hx hby d26_8 ?_
 refine sN X101 hx hby d26_9 (l' := #[vr a1, vi p2, vr va, vi ((32 : Int32) - p2), vu, vu, vu]) rfl ?_
 refine aN X101 hx hby d26_10 rfl rfl ?_
 obtain ⟨T102, X102, e102, st102⟩ := gF X101 hx hZ hown (tw108 hw) e101 O (g := (mkF m 11 #[vr a1, vi p2, vr va, vi ((32 : Int32) - p2), vu, vu, vu] [(.ref a1)])) rfl rfl (hb hby d26_11)
 refine dS st102 ?_
 show Aq T102 14 #[vr a1, vi p2, vr va, vi ((32 : Int32) - p2), vu, vu, vu] [(.int 0)]
 refine aN X102 hx hby d26_14 rfl rfl ?_
 obtain ⟨T103, X103, e103, st103⟩ := gF X102 hx hZ hown (tw112 hw) e102 N (g := (mkF m 15 #[vr a1, vi p2, vr va, vi ((32 : Int32) - p2), vu, vu, vu] [(.ref a1), (.int 0)])) rfl rfl (hb hby d26_15)
 refine dS st103 ?_
 show Aq T103 18 #[vr a1, vi p2, vr va, vi ((32 : Int32) - p2), vu, vu, vu] [(.int 1), (.int 0)]
 refine iA X103 hx hby d26_18 ?_
 rw [show ((0 : Int32) + (1 : Int32)) = (1 : Int32) from by decide]
 refine iC X103 hx hby d26_19 (z := 1) rfl ?_
 refine iS X103 hx hby d26_20 ?_
 rw [show ((1 : Int32) - (1 : Int32)) = (0 : Int32) from by decide]
 refine sL X103 hx hby d26_21 (l' := #[vr a1, vi p2, vr va, vi ((32 : Int32) - p2), vi 0, vu, vu]) rfl ?_
 refine aN X103 hx hby d26_23 rfl rfl ?_
 refine iL X103 hx hby d26_24 rfl ?_
 refine dS (ldI X103 hx hZ e103 A (j := (0 : Int32)) (x := (.int w0)) (by decide) rfl (g := (mkF m 26 #[vr a1, vi p2, vr va, vi ((32 : Int32) - p2), vi 0, vu, vu] [(.int 0), (.ref va)])) rfl rfl (hb hby d26_26)) ?_
 show Aq T103 27 #[vr a1, vi p2, vr va, vi ((32 : Int32) - p2), vi 0, vu, vu] [(.int w0)]
 refine sL X103 hx hby d26_27 (l' := #[vr a1, vi p2, vr va, vi ((32 : Int32) - p2), vi 0, vi w0, vu]) rfl ?_
 refine iL X103 hx hby d26_29 rfl ?_
 refine aN X103 hx hby d26_31 rfl rfl ?_
 obtain ⟨T104, X104, e104, st104⟩ := gF X103 hx hZ hown (tw108 hw) e103 O (g := (mkF m 32 #[vr a1, vi p2, vr va, vi ((32 : Int32) - p2), vi 0, vi w0, vu] [(.ref a1), (.int 0)])) rfl rfl (hb hby d26_32)
 refine dS st104 ?_
 show Aq T104 35 #[vr a1, vi p2, vr va, vi ((32 : Int32) - p2), vi 0, vi w0, vu] [(.int 0), (.int 0)]
 refine cY X104 hx hby d26_35 (pc' := 69) (flt (by decide)).2.2.2 (H := ?_)
 refine aN X104 hx hby d26_69 rfl rfl ?_
 refine aN X104 hx hby d26_70 rfl rfl ?_
 obtain ⟨T105, X105, e105, st105⟩ := gF X104 hx hZ hown (tw108 hw) e104 O (g := (mkF m 71 #[vr a1, vi p2, vr va, vi ((32 : Int32) - p2), vi 0, vi w0, vu] [(.ref a1), (.ref va)])) rfl rfl (hb hby d26_71)
 refine dS st105 ?_
 show Aq T105 74 #[vr a1, vi p2, vr va, vi ((32 : Int32) - p2), vi 0, vi w0, vu] [(.int 0), (.ref va)]
 refine dS (fun t k => Jvm.Free.XT.dup2 X105.here hx rfl (hb hby d26_74) rfl rfl rfl k) ?_
 show Aq T105 75 #[vr a1, vi p2, vr va, vi ((32 : Int32) - p2), vi 0, vi w0, vu] [(.int 0), (.ref va), (.int 0), (.ref va)]
 refine dS (ldI X105 hx hZ e105 A (j := (0 : Int32)) (x := (.int w0)) (by decide) rfl (g := (mkF m 75 #[vr a1, vi p2, vr va, vi ((32 : Int32) - p2), vi 0, vi w0, vu] [(.int 0), (.ref va), (.int 0), (.ref va)])) rfl rfl (hb hby d26_75)) ?_
 show Aq T105 76 #[vr a1, vi p2, vr va, vi ((32 : Int32) - p2), vi 0, vi w0, vu] [(.int w0), (.int 0), (.ref va)]
 refine iN X105 hx hby d26_76 rfl ?_
 refine iU X105 hx hby d26_77 ?_
 obtain ⟨T106, h106, X106, e106, W106, A106, st106⟩ := stoI X105 hx hZ e105 A (j := (0 : Int32)) (by decide) (i := 0) (by decide) (Nat.le_of_ble_eq_true rfl) (g := (mkF m 78 #[vr a1, vi p2, vr va, vi ((32 : Int32) - p2), vi 0, vi w0, vu] [(.int ((w0.toUInt32 >>> (p2 &&& 31).toUInt32).toInt32)), (.int 0), (.ref va)])) rfl rfl (hb hby d26_78)
 have f107 : Ax Z h106 va .int [(.int ((w0.toUInt32 >>> (p2 &&& 31).toUInt32).toInt32))] := A106
 refine dS st106 ?_
 show Aq T106 79 #[vr a1, vi p2, vr va, vi ((32 : Int32) - p2), vi 0, vi w0, vu] []
 exact Done.void X106 hx hlk hret (hb hby d26_79) (by decide) (by decide) ⟨rfl, (Fr.snoc X106 N0 gv), (by rw [e106]; exact ⟨((kr h0 [va]).wr W106 (Or.inl me0)), f107⟩)⟩
theorem rmpr12 (l : Launch) (Z : State) (a0 : Array Value) (hw : HH a0 Z) (ws : List Jvm.Cond) (a1 : Addr) (p2 : Int32) (va : Addr) (w0 w1 : Int32) (h0 : Heap) (n0 : Nat) (Z0 : n0 ≤ h0.size) (E : Fl3 Z h0 a1) (V : Fl0 Z h0 a1 (.ref va)) (N : Fl1 Z h0 a1 (.int 1)) (O : Fl2 Z h0 a1 (.int 0)) (A : Ax Z h0 va .int [(.int w0), (.int w1)]) (gv : n0 ≤ va) (nav : a1 ≠ va) : MF l "java/math/MutableBigInteger" "primitiveRightShift" "(I)V" jdk_2101_method_41_code 7 none ws ⟨0, 0, 0, 0⟩ Z h0 #[(.ref a1), (.int p2)] (fun v h L => v = none ∧ Fr n0 L ∧ Keep h0 h [va] ∧ Ax Z h va .int [(.int ((w0.toUInt32 >>> (p2 &&& 31).toUInt32).toInt32)), (.int w1)]) := by
 refine own_body (n0 := n0) (plainFor_of_name pn_27) (fun m => ef_26 m a1 p2) ?_
 intro p e s m below meth c s₁ hZ hx hby hml hown hlk hret hnm X0 e0 N0
 show Aq s₁ 0 #[vr a1, vi p2, vu, vu, vu, vu, vu] []
 refine aN X0 hx hby d26_0 rfl rfl ?_
 obtain ⟨T101, X101, e101, st101⟩ := gF X0 hx hZ hown (tw127 hw) e0 V (g := (mkF m 1 #[vr a1, vi p2, vu, vu, vu, vu, vu] [(.ref a1)])) rfl rfl (hb hby d26_1)
 refine dS st101 ?_
 show Aq T101 4 #[vr a1, vi p2, vu, vu, vu, vu, vu] [(.ref va)]
 refine aT X101 hx hby d26_4 rfl (l' := #[vr a1, vi p2, vr va, vu, vu, vu, vu]) rfl ?_
 refine iB X101 hx hby d26_5 (z := 32) rfl ?_
 refine iN X101 hx hby d26_7 rfl ?_
 refine iS X101 hx hby d26_8 ?_
 refine sN X101 hx hby d26_9 (l' := #[vr a1, vi p2, vr va, vi ((32 : Int32) - p2), vu, vu, vu]) rfl ?_
 refine aN X101 hx hby d26_10 rfl rfl ?_
 obtain ⟨T102, X102, e102, st102⟩ := gF X101 hx hZ hown (tw108 hw) e101 O (g := (mkF m 11 #[vr a1, vi p2, vr va, vi ((32 : Int32) - p2), vu, vu, vu] [(.ref a1)])) rfl rfl (hb hby d26_11)
 refine dS st102 ?_
 show Aq T102 14 #[vr a1, vi p2, vr va, vi ((32 : Int32) - p2), vu, vu, vu] [(.int 0)]
 refine aN X102 hx hby d26_14 rfl rfl ?_
 obtain ⟨T103, X103, e103, st103⟩ := gF X102 hx hZ hown (tw112 hw) e102 N (g := (mkF m 15 #[vr a1, vi p2, vr va, vi ((32 : Int32) - p2), vu, vu, vu] [(.ref a1), (.int 0)])) rfl rfl (hb hby d26_15)
 refine dS st103 ?_
 show Aq T103 18 #[vr a1, vi p2, vr va, vi ((32 : Int32) - p2), vu, vu, vu] [(.int 1), (.int 0)]
 refine iA X103 hx hby d26_18 ?_
 rw [show ((0 : Int32) + (1 : Int32)) = (1 : Int32) from by decide]
 refine iC X103 hx hby d26_19 (z := 1) rfl ?_
 refine iS X103 hx hby d26_20 ?_
 rw [show ((1 : Int32) - (1 : Int32)) = (0 : Int32) from by decide]
 refine sL X103 hx hby d26_21 (l' := #[vr a1, vi p2, vr va, vi ((32 : Int32) - p2), vi 0, vu, vu]) rfl ?_
 refine aN X103 hx hby d26_23 rfl rfl ?_
 refine iL X103 hx hby d26_24 rfl ?_
 refine dS (ldI X103 hx hZ e103 A (j := (0 : Int32)) (x := (.int w0)) (by decide) rfl (g := (mkF m 26 #[vr a1, vi p2, vr va, vi ((32 : Int32) - p2), vi 0, vu, vu] [(.int 0), (.ref va)])) rfl rfl (hb hby d26_26)) ?_
 show Aq T103 27 #[vr a1, vi p2, vr va, vi ((32 : Int32) - p2), vi 0, vu, vu] [(.int w0)]
 refine sL X103 hx hby d26_27 (l' := #[vr a1, vi p2, vr va, vi ((32 : Int32) - p2), vi 0, vi w0, vu]) rfl ?_
 refine iL X103 hx hby d26_29 rfl ?_
 refine aN X103 hx hby d26_31 rfl rfl ?_
 obtain ⟨T104, X104, e104, st104⟩ := gF X103 hx hZ hown (tw108 hw) e103 O (g := (mkF m 32 #[vr a1, vi p2, vr va, vi ((32 : Int32) - p2), vi 0, vi w0, vu] [(.ref a1), (.int 0)])) rfl rfl (hb hby d26_32)
 refine dS st104 ?_
 show Aq T104 35 #[vr a1, vi p2, vr va, vi ((32 : Int32) - p2), vi 0, vi w0, vu] [(.int 0), (.int 0)]
 refine cY X104 hx hby d26_35 (pc' := 69) (flt (by decide)).2.2.2 (H := ?_)
 refine aN X104 hx hby d26_69 rfl rfl ?_
 refine aN X104 hx hby d26_70 rfl rfl ?_
 obtain ⟨T105, X105, e105, st105⟩ := gF X104 hx hZ hown (tw108 hw) e104 O (g := (mkF m 71 #[vr a1, vi p2, vr va, vi ((32 : Int32) - p2), vi 0, vi w0, vu] [(.ref a1), (.ref va)])) rfl rfl (hb hby d26_71)
 refine dS st105 ?_
 show Aq T105 74 #[vr a1, vi p2, vr va, vi ((32 : Int32) - p2), vi 0, vi w0, vu] [(.int 0), (.ref va)]
 refine dS (fun t k => Jvm.Free.XT.dup2 X105.here hx rfl (hb hby d26_74) rfl rfl rfl k) ?_
 show Aq T105 75 #[vr a1, vi p2, vr va, vi ((32 : Int32) - p2), vi 0, vi w0, vu] [(.int 0), (.ref va), (.int 0), (.ref va)]
 refine dS (ldI X105 hx hZ e105 A (j := (0 : Int32)) (x := (.int w0)) (by decide) rfl (g := (mkF m 75 #[vr a1, vi p2, vr va, vi ((32 : Int32) - p2), vi 0, vi w0, vu] [(.int 0), (.ref va), (.int 0), (.ref va)])) rfl rfl (hb hby d26_75)) ?_
 show Aq T105 76 #[vr a1, vi p2, vr va, vi ((32 : Int32) - p2), vi 0, vi w0, vu] [(.int w0), (.int 0), (.ref va)]
 refine iN X105 hx hby d26_76 rfl ?_
 refine iU X105 hx hby d26_77 ?_
 obtain ⟨T106, h106, X106, e106, W106, A106, st106⟩ := stoI X105 hx hZ e105 A (j := (0 : Int32)) (by decide) (i := 0) (by decide) (Nat.le_of_ble_eq_true rfl) (g := (mkF m 78 #[vr a1, vi p2, vr va, vi ((32 : Int32) - p2), vi 0, vi w0, vu] [(.int ((w0.toUInt32 >>> (p2 &&& 31).toUInt32).toInt32)), (.int 0), (.ref va)])) rfl rfl (hb hby d26_78)
 have f107 : Ax Z h106 va .int [(.int ((w0.toUInt32 >>> (p2 &&& 31).toUInt32).toInt32)), (.int w1)] := A106
 refine dS st106 ?_
 show Aq T106 79 #[vr a1, vi p2, vr va, vi ((32 : Int32) - p2), vi 0, vi w0, vu] []
 exact Done.void X106 hx hlk hret (hb hby d26_79) (by decide) (by decide) ⟨rfl, (Fr.snoc X106 N0 gv), (by rw [e106]; exact ⟨((kr h0 [va]).wr W106 (Or.inl me0)), f107⟩)⟩
theorem d26_38 : dq cd6 38 (.iload 5) 2 := by decide +kernel
theorem d26_40 : dq cd6 40 (.istore 6) 2 := by decide +kernel
theorem d26_42 : dq cd6 42 (.aload_n 2) 1 := by decide +kernel
theorem d26_43 : dq cd6 43 (.iload 4) 2 := by decide +kernel
theorem d26_45 : dq cd6 45 (.iconst 1) 1 := by decide +kernel
theorem d26_46 : dq cd6 46 .isub 1 := by decide +kernel
theorem d26_47 : dq cd6 47 .iaload 1 := by decide +kernel
theorem d26_48 : dq cd6 48 (.istore 5) 2 := by decide +kernel
theorem d26_50 : dq cd6 50 (.aload_n 2) 1 := by decide +kernel
theorem d26_51 : dq cd6 51 (.iload 4) 2 := by decide +kernel
theorem d26_53 : dq cd6 53 (.iload 5) 2 := by decide +kernel
theorem d26_55 : dq cd6 55 (.iload_n 3) 1 := by decide +kernel
theorem d26_56 : dq cd6 56 .ishl 1 := by decide +kernel
theorem d26_57 : dq cd6 57 (.iload 6) 2 := by decide +kernel
theorem d26_59 : dq cd6 59 (.iload_n 1) 1 := by decide +kernel
theorem d26_60 : dq cd6 60 .iushr 1 := by decide +kernel
theorem d26_61 : dq cd6 61 .ior 1 := by decide +kernel
theorem d26_62 : dq cd6 62 .iastore 1 := by decide +kernel
theorem d26_63 : dq cd6 63 (.iinc 4 (-1)) 3 := by decide +kernel
theorem d26_66 : dq cd6 66 (.goto (-37)) 3 := by decide +kernel
theorem rmpr22 (l : Launch) (Z : State) (a0 : Array Value) (hw : HH a0 Z) (ws : List Jvm.Cond) (a1 : Addr) (p2 : Int32) (va : Addr) (w0 w1 : Int32) (h0 : Heap) (n0 : Nat) (Z0 : n0 ≤ h0.size) (E : Fl3 Z h0 a1) (V : Fl0 Z h0 a1 (.ref va)) (N : Fl1 Z h0 a1 (.int 2)) (O : Fl2 Z h0 a1 (.int 0)) (A : Ax Z h0 va .int [(.int w0), (.int w1)]) (gv : n0 ≤ va) (nav : a1 ≠ va) : MF l "java/math/MutableBigInteger" "primitiveRightShift" "(I)V" jdk_2101_method_41_code 7 none ws ⟨0, 0, 0, 0⟩ Z h0 #[(.ref a1), (.int p2)] (fun v h L => v = none ∧ Fr n0 L ∧ Keep h0 h [va] ∧ Ax Z h va .int [(.int ((w0.toUInt32 >>> (p2 &&& 31).toUInt32).toInt32)), (.int ((w0 <<< (((32 : Int32) - p2) &&& 31)) ||| ((w1.toUInt32 >>> (p2 &&& 31).toUInt32).toInt32)))]) := by
 refine own_body (n0 := n0) (plainFor_of_name pn_27) (fun m => ef_26 m a1 p2) ?_
 intro p e s m below meth c s₁ hZ hx hby hml hown hlk hret hnm X0 e0 N0
 show Aq s₁ 0 #[vr a1, vi p2, vu, vu, vu, vu, vu] []
 refine aN X0 hx hby d26_0 rfl rfl ?_
 obtain ⟨T101, X101, e101, st101⟩ := gF X0 hx hZ hown (tw127 hw) e0 V (g := (mkF m 1 #[vr a1, vi p2, vu, vu, vu, vu, vu] [(.ref a1)])) rfl rfl (hb hby d26_1)
 refine dS st101 ?_
 show Aq T101 4 #[vr a1, vi p2, vu, vu, vu, vu, vu] [(.ref va)]
 refine aT X101 hx hby d26_4 rfl (l' := #[vr a1, vi p2, vr va, vu, vu, vu, vu]) rfl ?_
 refine iB X101 hx hby d26_5 (z := 32) rfl ?_
 refine iN X101 hx hby d26_7 rfl ?_
 refine iS X101 hx hby d26_8 ?_
 refine sN X101 hx hby d26_9 (l' := #[vr a1, vi p2, vr va, vi ((32 : Int32) - p2), vu, vu, vu]) rfl ?_
 refine aN X101 hx hby d26_10 rfl rfl ?_
 obtain ⟨T102, X102, e102, st102⟩ := gF X101 hx hZ hown (tw108 hw) e101 O (g := (mkF m 11 #[vr a1, vi p2, vr va, vi ((32 : Int32) - p2), vu, vu, vu] [(.ref a1)])) rfl rfl (hb hby d26_11)
 refine dS st102 ?_
 show Aq T102 14 #[vr a1, vi p2, vr va, vi ((32 : Int32) - p2), vu, vu, vu] [(.int 0)]
 refine aN X102 hx hby d26_14 rfl rfl ?_
 obtain ⟨T103, X103, e103, st103⟩ := gF X102 hx hZ hown (tw112 hw) e102 N (g := (mkF m 15 #[vr a1, vi p2, vr va, vi ((32 : Int32) - p2), vu, vu, vu] [(.ref a1), (.int 0)])) rfl rfl (hb hby d26_15)
 refine dS st103 ?_
 show Aq T103 18 #[vr a1, vi p2, vr va, vi ((32 : Int32) - p2), vu, vu, vu] [(.int 2), (.int 0)]
 refine iA X103 hx hby d26_18 ?_
 rw [show ((0 : Int32) + (2 : Int32)) = (2 : Int32) from by decide]
 refine iC X103 hx hby d26_19 (z := 1) rfl ?_
 refine iS X103 hx hby d26_20 ?_
 rw [show ((2 : Int32) - (1 : Int32)) = (1 : Int32) from by decide]
 refine sL X103 hx hby d26_21 (l' := #[vr a1, vi p2, vr va, vi ((32 : Int32) - p2), vi 1, vu, vu]) rfl ?_
 refine aN X103 hx hby d26_23 rfl rfl ?_
 refine iL X103 hx hby d26_24 rfl ?_
 refine dS (ldI X103 hx hZ e103 A (j := (1 : Int32)) (x := (.int w1)) (by decide) rfl (g := (mkF m 26 #[vr a1, vi p2, vr va, vi ((32 : Int32) - p2), vi 1, vu, vu] [(.int 1), (.ref va)])) rfl rfl (hb hby d26_26)) ?_
 show Aq T103 27 #[vr a1, vi p2, vr va, vi ((32 : Int32) - p2), vi 1, vu, vu] [(.int w1)]
 refine sL X103 hx hby d26_27 (l' := #[vr a1, vi p2, vr va, vi ((32 : Int32) - p2), vi 1, vi w1, vu]) rfl ?_
 refine iL X103 hx hby d26_29 rfl ?_
 refine aN X103 hx hby d26_31 rfl rfl ?_
 obtain ⟨T104, X104, e104, st104⟩ := gF X103 hx hZ hown (tw108 hw) e103 O (g := (mkF m 32 #[vr a1, vi p2, vr va, vi ((32 : Int32) - p2), vi 1, vi w1, vu] [(.ref a1), (.int 1)])) rfl rfl (hb hby d26_32)
 refine dS st104 ?_
 show Aq T104 35 #[vr a1, vi p2, vr va, vi ((32 : Int32) - p2), vi 1, vi w1, vu] [(.int 0), (.int 1)]
 refine cF X104 hx hby d26_35 (tlt (by decide)).2.2.2 ?_
 refine iL X104 hx hby d26_38 rfl ?_
 refine sL X104 hx hby d26_40 (l' := #[vr a1, vi p2, vr va, vi ((32 : Int32) - p2), vi 1, vi w1, vi w1]) rfl ?_
 refine aN X104 hx hby d26_42 rfl rfl ?_
 refine iL X104 hx hby d26_43 rfl ?_
 refine iC X104 hx hby d26_45 (z := 1) rfl ?_
 refine iS X104 hx hby d26_46 ?_
 rw [show ((1 : Int32) - (1 : Int32)) = (0 : Int32) from by decide]
 refine dS (ldI X104 hx hZ e104 A (j := (0 : Int32)) (x := (.int w0)) (by decide) rfl (g := (mkF m 47 #[vr a1, vi p2, vr va, vi ((32 : Int32) - p2), vi 1, vi w1, vi w1] [(.int 0), (.ref va)])) rfl rfl (hb hby d26_47)) ?_
 show Aq T104 48 #[vr a1, vi p2, vr va, vi ((32 : Int32) - p2), vi 1, vi w1, vi w1] [(.int w0)]
 refine sL X104 hx hby d26_48 (l' := #[vr a1, vi p2, vr va, vi ((32 : Int32) - p2), vi 1, vi w0, vi w1]) rfl ?_
 refine aN X104 hx hby d26_50 rfl rfl ?_
 refine iL X104 hx hby d26_51 rfl ?_
 refine iL X104 hx hby d26_53 rfl ?_
 refine iN X104 hx hby d26_55 rfl ?_
 refine dS (fun t k => XS.ishl X104.here hx rfl (hb hby d26_56) rfl k) ?_
 show Aq T104 57 #[vr a1, vi p2, vr va, vi ((32 : Int32) - p2), vi 1, vi w0, vi w1] [(.int (w0 <<< (((32 : Int32) - p2) &&& 31))), (.int 1), (.ref va)]
 refine iL X104 hx hby d26_57 rfl ?_
 refine iN X104 hx hby d26_59 rfl ?_
 refine iU X104 hx hby d26_60 ?_
 refine dS (fun t k => XS.ior X104.here hx rfl (hb hby d26_61) rfl k) ?_
 show Aq T104 62 #[vr a1, vi p2, vr va, vi ((32 : Int32) - p2), vi 1, vi w0, vi w1] [(.int ((w0 <<< (((32 : Int32) - p2) &&& 31)) ||| ((w1.toUInt32 >>> (p2 &&& 31).toUInt32).toInt32))), (.int 1), (.ref va)]
 obtain ⟨T105, h105, X105, e105, W105, A105, st105⟩ := stoI X104 hx hZ e104 A (j := (1 : Int32)) (by decide) (i := 1) (by decide) (Nat.le_of_ble_eq_true rfl) (g := (mkF m 62 #[vr a1, vi p2, vr va, vi ((32 : Int32) - p2), vi 1, vi w0, vi w1] [(.int ((w0 <<< (((32 : Int32) - p2) &&& 31)) ||| ((w1.toUInt32 >>> (p2 &&& 31).toUInt32).toInt32))), (.int 1), (.ref va)])) rfl rfl (hb hby d26_62)
 have f106 : Ax Z h105 va .int [(.int w0), (.int ((w0 <<< (((32 : Int32) - p2) &&& 31)) ||| ((w1.toUInt32 >>> (p2 &&& 31).toUInt32).toInt32)))] := A105
 refine dS st105 ?_
 show Aq T105 63 #[vr a1, vi p2, vr va, vi ((32 : Int32) - p2), vi 1, vi w0, vi w1] []
 refine dS (fun t k => XS.iinc X105.here hx rfl (hb hby d26_63) rfl (l' := #[vr a1, vi p2, vr va, vi ((32 : Int32) - p2), vi ((1 : Int32) + (-1 : Int32)), vi w0, vi w1]) rfl k) ?_
 show Aq T105 66 #[vr a1, vi p2, vr va, vi ((32 : Int32) - p2), vi ((1 : Int32) + (-1 : Int32)), vi w0, vi w1] []
 rw [show ((1 : Int32) + (-1 : Int32)) = (0 : Int32) from by decide]
 show Aq T105 66 #[vr a1, vi p2, vr va, vi ((32 : Int32) - p2), vi 0, vi w0, vi w1] []
 refine gO X105 hx hby d26_66 (pc' := 29) (H := ?_)
 refine iL X105 hx hby d26_29 rfl ?_
 refine aN X105 hx hby d26_31 rfl rfl ?_
 obtain ⟨T107, X107, e107, st107⟩ := gF X105 hx hZ hown (tw108 hw) e105 (O.other W105 (Or.inl nav)) (g := (mkF m 32 #[vr a1, vi p2, vr va, vi ((32 : Int32) - p2), vi 0, vi w0, vi w1] [(.ref a1), (.int 0)])) rfl rfl (hb hby d26_32)
 refine dS st107 ?_
 show Aq T107 35 #[vr a1, vi p2, vr va, vi ((32 : Int32) - p2), vi 0, vi w0, vi w1] [(.int 0), (.int 0)]
 refine cY X107 hx hby d26_35 (pc' := 69) (flt (by decide)).2.2.2 (H := ?_)
 refine aN X107 hx hby d26_69 rfl rfl ?_
 refine aN X107 hx hby d26_70 rfl rfl ?_
 obtain ⟨T108, X108, e108, st108⟩ := gF X107 hx hZ hown (tw108 hw) e107 (O.other W105 (Or.inl nav)) (g := (mkF m 71 #[vr a1, vi p2, vr va, vi ((32 : Int32) - p2), vi 0, vi w0, vi w1] [(.ref a1), (.ref va)])) rfl rfl (hb hby d26_71)
 refine dS st108 ?_
 show Aq T108 74 #[vr a1, vi p2, vr va, vi ((32 : Int32) - p2), vi 0, vi w0, vi w1] [(.int 0), (.ref va)]
 refine dS (fun t k => Jvm.Free.XT.dup2 X108.here hx rfl (hb hby d26_74) rfl rfl rfl k) ?_
 show Aq T108 75 #[vr a1, vi p2, vr va, vi ((32 : Int32) - p2), vi 0, vi w0, vi w1] [(.int 0), (.ref va), (.int 0), (.ref va)]
 refine dS (ldI X108 hx hZ e108 f106 (j := (0 : Int32)) (x := (.int w0)) (by decide) rfl (g := (mkF m 75 #[vr a1, vi p2, vr va, vi ((32 : Int32) - p2), vi 0, vi w0, vi w1] [(.int 0), (.ref va), (.int 0), (.ref va)])) rfl rfl (hb hby d26_75)) ?_
 show Aq T108 76 #[vr a1, vi p2, vr va, vi ((32 : Int32) - p2), vi 0, vi w0, vi w1] [(.int w0), (.int 0), (.ref va)]
 refine iN X108 hx hby d26_76 rfl ?_
 refine iU X108 hx hby d26_77 ?_
 obtain ⟨T109, h109, X109, e109, W109, A109, st109⟩ := stoI X108 hx hZ e108 f106 (j := (0 : Int32)) (by decide) (i := 0) (by decide) (Nat.le_of_ble_eq_true rfl) (g := (mkF m 78 #[vr a1, vi p2, vr va, vi ((32 : Int32) - p2), vi 0, vi w0, vi w1] [(.int ((w0.toUInt32 >>> (p2 &&& 31).toUInt32).toInt32)), (.int 0), (.ref va)])) rfl rfl (hb hby d26_78)
 have f110 : Ax Z h109 va .int [(.int ((w0.toUInt32 >>> (p2 &&& 31).toUInt32).toInt32)), (.int ((w0 <<< (((32 : Int32) - p2) &&& 31)) ||| ((w1.toUInt32 >>> (p2 &&& 31).toUInt32).toInt32)))] := A109
 refine dS st109 ?_
 show Aq T109 79 #[vr a1, vi p2, vr va, vi ((32 : Int32) - p2), vi 0, vi w0, vi w1] []
 exact Done.void X109 hx hlk hret (hb hby d26_79) (by decide) (by decide) ⟨rfl, (Fr.snoc X109 (Fr.snoc X105 N0 gv) gv), (by rw [e109]; exact ⟨(((kr h0 [va]).wr W105 (Or.inl me0)).wr W109 (Or.inl me0)), f110⟩)⟩
theorem d46_0 : dq cd7 0 (.aload_n 0) 1 := by decide +kernel
theorem d46_1 : dq cd7 1 (.getfield 17) 3 := by decide +kernel
theorem d46_4 : dq cd7 4 (.astore_n 2) 1 := by decide +kernel
theorem d46_5 : dq cd7 5 (.bipush 32) 2 := by decide +kernel
theorem d46_7 : dq cd7 7 (.iload_n 1) 1 := by decide +kernel
theorem d46_8 : dq cd7 8 .isub 1 := by decide +kernel
theorem d46_9 : dq cd7 9 (.istore_n 3) 1 := by decide +kernel
theorem d46_10 : dq cd7 10 (.aload_n 0) 1 := by decide +kernel
theorem d46_11 : dq cd7 11 (.getfield 11) 3 := by decide +kernel
theorem d46_14 : dq cd7 14 (.istore 4) 2 := by decide +kernel
theorem d46_16 : dq cd7 16 (.aload_n 2) 1 := by decide +kernel
theorem d46_17 : dq cd7 17 (.iload 4) 2 := by decide +kernel
theorem d46_19 : dq cd7 19 .iaload 1 := by decide +kernel
theorem d46_20 : dq cd7 20 (.istore 5) 2 := by decide +kernel
theorem d46_22 : dq cd7 22 (.iload 4) 2 := by decide +kernel
theorem d46_24 : dq cd7 24 (.aload_n 0) 1 := by decide +kernel
theorem d46_25 : dq cd7 25 (.getfield 21) 3 := by decide +kernel
theorem d46_28 : dq cd7 28 .iadd 1 := by decide +kernel
theorem d46_29 : dq cd7 29 (.iconst 1) 1 := by decide +kernel
theorem d46_30 : dq cd7 30 .isub 1 := by decide +kernel
theorem d46_31 : dq cd7 31 (.istore 6) 2 := by decide +kernel
theorem d46_33 : dq cd7 33 (.iload 4) 2 := by decide +kernel
theorem d46_35 : dq cd7 35 (.iload 6) 2 := by decide +kernel
theorem d46_37 : dq cd7 37 (.if_icmp .ge 34) 3 := by decide +kernel
theorem d46_40 : dq cd7 40 (.iload 5) 2 := by decide +kernel
theorem d46_42 : dq cd7 42 (.istore 7) 2 := by decide +kernel
theorem d46_44 : dq cd7 44 (.aload_n 2) 1 := by decide +kernel
theorem d46_45 : dq cd7 45 (.iload 4) 2 := by decide +kernel
theorem d46_47 : dq cd7 47 (.iconst 1) 1 := by decide +kernel
theorem d46_48 : dq cd7 48 .iadd 1 := by decide +kernel
theorem d46_49 : dq cd7 49 .iaload 1 := by decide +kernel
theorem d46_50 : dq cd7 50 (.istore 5) 2 := by decide +kernel
theorem d46_52 : dq cd7 52 (.aload_n 2) 1 := by decide +kernel
theorem d46_53 : dq cd7 53 (.iload 4) 2 := by decide +kernel
theorem d46_55 : dq cd7 55 (.iload 7) 2 := by decide +kernel
theorem d46_57 : dq cd7 57 (.iload_n 1) 1 := by decide +kernel
theorem d46_58 : dq cd7 58 .ishl 1 := by decide +kernel
theorem d46_59 : dq cd7 59 (.iload 5) 2 := by decide +kernel
theorem d46_61 : dq cd7 61 (.iload_n 3) 1 := by decide +kernel
theorem d46_62 : dq cd7 62 .iushr 1 := by decide +kernel
theorem d46_63 : dq cd7 63 .ior 1 := by decide +kernel
theorem d46_64 : dq cd7 64 .iastore 1 := by decide +kernel
theorem d46_65 : dq cd7 65 (.iinc 4 1) 3 := by decide +kernel
theorem d46_68 : dq cd7 68 (.goto (-35)) 3 := by decide +kernel
theorem d46_71 : dq cd7 71 (.aload_n 2) 1 := by decide +kernel
theorem d46_72 : dq cd7 72 (.aload_n 0) 1 := by decide +kernel
theorem d46_73 : dq cd7 73 (.getfield 11) 3 := by decide +kernel
theorem d46_76 : dq cd7 76 (.aload_n 0) 1 := by decide +kernel
theorem d46_77 : dq cd7 77 (.getfield 21) 3 := by decide +kernel
theorem d46_80 : dq cd7 80 .iadd 1 := by decide +kernel
theorem d46_81 : dq cd7 81 (.iconst 1) 1 := by decide +kernel
theorem d46_82 : dq cd7 82 .isub 1 := by decide +kernel
theorem d46_83 : dq cd7 83 .dup2 1 := by decide +kernel
theorem d46_84 : dq cd7 84 .iaload 1 := by decide +kernel
theorem d46_85 : dq cd7 85 (.iload_n 1) 1 := by decide +kernel
theorem d46_86 : dq cd7 86 .ishl 1 := by decide +kernel
theorem d46_87 : dq cd7 87 .iastore 1 := by decide +kernel
theorem d46_88 : dq cd7 88 .return_ 1 := by decide +kernel
theorem ef_46 (m : MethodId) (a1 : Addr) (p2 : Int32) : entryFrame m #[(.ref a1), (.int p2)] 8 = mkF m 0 #[.val (.ref a1), .val (.int p2), .unset, .unset, .unset, .unset, .unset, .unset] [] := by first | (simp [entryFrame, mkF, argsToLocals, Value.category]; done) | rfl
theorem rmpl22 (l : Launch) (Z : State) (a0 : Array Value) (hw : HH a0 Z) (ws : List Jvm.Cond) (a1 : Addr) (p2 : Int32) (va : Addr) (w0 w1 : Int32) (h0 : Heap) (n0 : Nat) (Z0 : n0 ≤ h0.size) (E : Fl3 Z h0 a1) (V : Fl0 Z h0 a1 (.ref va)) (N : Fl1 Z h0 a1 (.int 2)) (O : Fl2 Z h0 a1 (.int 0)) (A : Ax Z h0 va .int [(.int w0), (.int w1)]) (gv : n0 ≤ va) (nav : a1 ≠ va) : MF l "java/math/MutableBigInteger" "primitiveLeftShift" "(I)V" jdk_2101_method_42_code 8 none ws ⟨0, 0, 0, 0⟩ Z h0 #[(.ref a1), (.int p2)] (fun v h L => v = none ∧ Fr n0 L ∧ Keep h0 h [va] ∧ Ax Z h va .int [(.int ((w0 <<< (p2 &&& 31)) ||| ((w1.toUInt32 >>> (((32 : Int32) - p2) &&& 31).toUInt32).toInt32))), (.int (w1 <<< (p2 &&& 31)))]) := by
 refine own_body (n0 := n0) (plainFor_of_name pn_27) (fun m => ef_46 m a1 p2) ?_
 intro p e s m below meth c s₁ hZ hx hby hml hown hlk hret hnm X0 e0 N0
 show Aq s₁ 0 #[vr a1, vi p2, vu, vu, vu, vu, vu, vu] []
 refine aN X0 hx hby d46_0 rfl rfl ?_
 obtain ⟨T101, X101, e101, st101⟩ := gF X0 hx hZ hown (tw127 hw) e0 V (g := (mkF m 1 #[vr a1, vi p2, vu, vu, vu, vu, vu, vu] [(.ref a1)])) rfl rfl (hb hby d46_1)
 refine dS st101 ?_
 show Aq T101 4 #[vr a1, vi p2, vu, vu, vu, vu, vu, vu] [(.ref va)]
 refine aT X101 hx hby d46_4 rfl (l' := #[vr a1, vi p2, vr va, vu, vu, vu, vu, vu]) rfl ?_
 refine iB X101 hx hby d46_5 (z := 32) rfl ?_
 refine iN X101 hx hby d46_7 rfl ?_
 refine iS X101 hx hby d46_8 ?_
 refine sN X101 hx hby d46_9 (l' := #[vr a1, vi p2, vr va, vi ((32 : Int32) - p2), vu, vu, vu, vu]) rfl ?_
 refine aN X101 hx hby d46_10 rfl rfl ?_
 obtain ⟨T102, X102, e102, st102⟩ := gF X101 hx hZ hown (tw108 hw) e101 O (g := (mkF m 11 #[vr a1, vi p2, vr va, vi ((32 : Int32) - p2), vu, vu, vu, vu] [(.ref a1)])) rfl rfl (hb hby d46_11)
 refine dS st102 ?_
 show Aq T102 14 #[vr a1, vi p2, vr va, vi ((32 : Int32) - p2), vu, vu, vu, vu] [(.int 0)]
 refine sL X102 hx hby d46_14 (l' := #[vr a1, vi p2, vr va, vi ((32 : Int32) - p2), vi 0, vu, vu, vu]) rfl ?_
 refine aN X102 hx hby d46_16 rfl rfl ?_
 refine iL X102 hx hby d46_17 rfl ?_
 refine dS (ldI X102 hx hZ e102 A (j := (0 : Int32)) (x := (.int w0)) (by decide) rfl (g := (mkF m 19 #[vr a1, vi p2, vr va, vi ((32 : Int32) - p2), vi 0, vu, vu, vu] [(.int 0), (.ref va)])) rfl rfl (hb hby d46_19)) ?_
 show Aq T102 20 #[vr a1, vi p2, vr va, vi ((32 : Int32) - p2), vi 0, vu, vu, vu] [(.int w0)]
 refine sL X102 hx hby d46_20 (l' := #[vr a1, vi p2, vr va, vi ((32 : Int32) - p2), vi 0, vi w0, vu, vu]) rfl ?_
 refine iL X102 hx hby d46_22 rfl ?_
 refine aN X102 hx hby d46_24 rfl rfl ?_
 obtain ⟨T103, X103, e103, st103⟩ := gF X102 hx hZ hown (tw112 hw) e102 N (g := (mkF m 25 #[vr a1, vi p2, vr va, vi ((32 : Int32) - p2), vi 0, vi w0, vu, vu] [(.ref a1), (.int 0)])) rfl rfl (hb hby d46_25)
 refine dS st103 ?_
 show Aq T103 28 #[vr a1, vi p2, vr va, vi ((32 : Int32) - p2), vi 0, vi w0, vu, vu] [(.int 2), (.int 0)]
 refine iA X103 hx hby d46_28 ?_
 rw [show ((0 : Int32) + (2 : Int32)) = (2 : Int32) from by decide]
 refine iC X103 hx hby d46_29 (z := 1) rfl ?_
 refine iS X103 hx hby d46_30 ?_
 rw [show ((2 : Int32) - (1 : Int32)) = (1 : Int32) from by decide]
 refine sL X103 hx hby d46_31 (l' := #[vr a1, vi p2, vr va, vi ((32 : Int32) - p2), vi 0, vi w0, vi 1, vu]) rfl ?_
 refine iL X103 hx hby d46_33 rfl ?_
 refine iL X103 hx hby d46_35 rfl ?_
 refine cF X103 hx hby d46_37 (tlt (by decide)).2.1 ?_
 refine iL X103 hx hby d46_40 rfl ?_
 refine sL X103 hx hby d46_42 (l' := #[vr a1, vi p2, vr va, vi ((32 : Int32) - p2), vi 0, vi w0, vi 1, vi w0]) rfl ?_
 refine aN X103 hx hby d46_44 rfl rfl ?_
 refine iL X103 hx hby d46_45 rfl ?_
 refine iC X103 hx hby d46_47 (z := 1) rfl ?_
 refine iA X103 hx hby d46_48 ?_
 rw [show ((0 : Int32) + (1 : Int32)) = (1 : Int32) from by decide]
 refine dS (ldI X103 hx hZ e103 A (j := (1 : Int32)) (x := (.int w1)) (by decide) rfl (g := (mkF m 49 #[vr a1, vi p2, vr va, vi ((32 : Int32) - p2), vi 0, vi w0, vi 1, vi w0] [(.int 1), (.ref va)])) rfl rfl (hb hby d46_49)) ?_
 show Aq T103 50 #[vr a1, vi p2, vr va, vi ((32 : Int32) - p2), vi 0, vi w0, vi 1, vi w0] [(.int w1)]
 refine sL X103 hx hby d46_50 (l' := #[vr a1, vi p2, vr va, vi ((32 : Int32) - p2), vi 0, vi w1, vi 1, vi w0]) rfl ?_
 refine aN X103 hx hby d46_52 rfl rfl ?_
 refine iL X103 hx hby d46_53 rfl ?_
 refine iL X103 hx hby d46_55 rfl ?_
 refine iN X103 hx hby d46_57 rfl ?_
 refine dS (fun t k => XS.ishl X103.here hx rfl (hb hby d46_58) rfl k) ?_
 show Aq T103 59 #[vr a1, vi p2, vr va, vi ((32 : Int32) - p2), vi 0, vi w1, vi 1, vi w0] [(.int (w0 <<< (p2 &&& 31))), (.int 0), (.ref va)]
 refine iL X103 hx hby d46_59 rfl ?_
 refine iN X103 hx hby d46_61 rfl ?_
 refine iU X103 hx hby d46_62 ?_
 refine dS (fun t k => XS.ior X103.here hx rfl (hb hby d46_63) rfl k) ?_
 show Aq T103 64 #[vr a1, vi p2, vr va, vi ((32 : Int32) - p2), vi 0, vi w1, vi 1, vi w0] [(.int ((w0 <<< (p2 &&& 31)) ||| ((w1.toUInt32 >>> (((32 : Int32) - p2) &&& 31).toUInt32).toInt32))), (.int 0), (.ref va)]
 obtain ⟨T104, h104, X104, e104, W104, A104, st104⟩ := stoI X103 hx hZ e103 A (j := (0 : Int32)) (by decide) (i := 0) (by decide) (Nat.le_of_ble_eq_true rfl) (g := (mkF m 64 #[vr a1, vi p2, vr va, vi ((32 : Int32) - p2), vi 0, vi w1, vi 1, vi w0] [(.int ((w0 <<< (p2 &&& 31)) ||| ((w1.toUInt32 >>> (((32 : Int32) - p2) &&& 31).toUInt32).toInt32))), (.int 0), (.ref va)])) rfl rfl (hb hby d46_64)
 have f105 : Ax Z h104 va .int [(.int ((w0 <<< (p2 &&& 31)) ||| ((w1.toUInt32 >>> (((32 : Int32) - p2) &&& 31).toUInt32).toInt32))), (.int w1)] := A104
 refine dS st104 ?_
 show Aq T104 65 #[vr a1, vi p2, vr va, vi ((32 : Int32) - p2), vi 0, vi w1, vi 1, vi w0] []
 refine dS (fun t k => XS.iinc X104.here hx rfl (hb hby d46_65) rfl (l' := #[vr a1, vi p2, vr va, vi ((32 : Int32) - p2), vi ((0 : Int32) + (1 : Int32)), vi w1, vi 1, vi w0]) rfl k) ?_
 show Aq T104 68 #[vr a1, vi p2, vr va, vi ((32 : Int32) - p2), vi ((0 : Int32) + (1 : Int32)), vi w1, vi 1, vi w0] []
 rw [show ((0 : Int32) + (1 : Int32)) = (1 : Int32) from by decide]
 show Aq T104 68 #[vr a1, vi p2, vr va, vi ((32 : Int32) - p2), vi 1, vi w1, vi 1, vi w0] []
 refine gO X104 hx hby d46_68 (pc' := 33) (H := ?_)
 refine iL X104 hx hby d46_33 rfl ?_
 refine iL X104 hx hby d46_35 rfl ?_
 refine cY X104 hx hby d46_37 (pc' := 71) (flt (by decide)).2.1 (H := ?_)
 refine aN X104 hx hby d46_71 rfl rfl ?_
 refine aN X104 hx hby d46_72 rfl rfl ?_
 obtain ⟨T106, X106, e106, st106⟩ := gF X104 hx hZ hown (tw108 hw) e104 (O.other W104 (Or.inl nav)) (g := (mkF m 73 #[vr a1, vi p2, vr va, vi ((32 : Int32) - p2), vi 1, vi w1, vi 1, vi w0] [(.ref a1), (.ref va)])) rfl rfl (hb hby d46_73)
 refine dS st106 ?_
 show Aq T106 76 #[vr a1, vi p2, vr va, vi ((32 : Int32) - p2), vi 1, vi w1, vi 1, vi w0] [(.int 0), (.ref va)]
 refine aN X106 hx hby d46_76 rfl rfl ?_
 obtain ⟨T107, X107, e107, st107⟩ := gF X106 hx hZ hown (tw112 hw) e106 (N.other W104 (Or.inl nav)) (g := (mkF m 77 #[vr a1, vi p2, vr va, vi ((32 : Int32) - p2), vi 1, vi w1, vi 1, vi w0] [(.ref a1), (.int 0), (.ref va)])) rfl rfl (hb hby d46_77)
 refine dS st107 ?_
 show Aq T107 80 #[vr a1, vi p2, vr va, vi ((32 : Int32) - p2), vi 1, vi w1, vi 1, vi w0] [(.int 2), (.int 0), (.ref va)]
 refine iA X107 hx hby d46_80 ?_
 rw [show ((0 : Int32) + (2 : Int32)) = (2 : Int32) from by decide]
 refine iC X107 hx hby d46_81 (z := 1) rfl ?_
 refine iS X107 hx hby d46_82 ?_
 rw [show ((2 : Int32) - (1 : Int32)) = (1 : Int32) from by decide]
 refine dS (fun t k => Jvm.Free.XT.dup2 X107.here hx rfl (hb hby d46_83) rfl rfl rfl k) ?_
 show Aq T107 84 #[vr a1, vi p2, vr va, vi ((32 : Int32) - p2), vi 1, vi w1, vi 1, vi w0] [(.int 1), (.ref va), (.int 1), (.ref va)]
 refine dS (ldI X107 hx hZ e107 f105 (j := (1 : Int32)) (x := (.int w1)) (by decide) rfl (g := (mkF m 84 #[vr a1, vi p2, vr va, vi ((32 : Int32) - p2), vi 1, vi w1, vi 1, vi w0] [(.int 1), (.ref va), (.int 1), (.ref va)])) rfl rfl (hb hby d46_84)) ?_
 show Aq T107 85 #[vr a1, vi p2, vr va, vi ((32 : Int32) - p2), vi 1, vi w1, vi 1, vi w0] [(.int w1), (.int 1), (.ref va)]
 refine iN X107 hx hby d46_85 rfl ?_
 refine dS (fun t k => XS.ishl X107.here hx rfl (hb hby d46_86) rfl k) ?_
 show Aq T107 87 #[vr a1, vi p2, vr va, vi ((32 : Int32) - p2), vi 1, vi w1, vi 1, vi w0] [(.int (w1 <<< (p2 &&& 31))), (.int 1), (.ref va)]
 obtain ⟨T108, h108, X108, e108, W108, A108, st108⟩ := stoI X107 hx hZ e107 f105 (j := (1 : Int32)) (by decide) (i := 1) (by decide) (Nat.le_of_ble_eq_true rfl) (g := (mkF m 87 #[vr a1, vi p2, vr va, vi ((32 : Int32) - p2), vi 1, vi w1, vi 1, vi w0] [(.int (w1 <<< (p2 &&& 31))), (.int 1), (.ref va)])) rfl rfl (hb hby d46_87)
 have f109 : Ax Z h108 va .int [(.int ((w0 <<< (p2 &&& 31)) ||| ((w1.toUInt32 >>> (((32 : Int32) - p2) &&& 31).toUInt32).toInt32))), (.int (w1 <<< (p2 &&& 31)))] := A108
 refine dS st108 ?_
 show Aq T108 88 #[vr a1, vi p2, vr va, vi ((32 : Int32) - p2), vi 1, vi w1, vi 1, vi w0] []
 exact Done.void X108 hx hlk hret (hb hby d46_88) (by decide) (by decide) ⟨rfl, (Fr.snoc X108 (Fr.snoc X104 N0 gv) gv), (by rw [e108]; exact ⟨(((kr h0 [va]).wr W104 (Or.inl me0)).wr W108 (Or.inl me0)), f109⟩)⟩
def MM (a b : Int32) : Nat := 4294967296 * U a + U b
theorem own_une {x : Int32} (h : ¬ x = (0 : Int32)) : 1 ≤ U x := by
 refine Nat.pos_of_ne_zero fun q => h (U.inj ?_)
 exact q
theorem own_neu {x : Int32} (h : 1 ≤ U x) : ¬ x = (0 : Int32) := fun q => by rw [q] at h; exact absurd h (by decide)
theorem own_odd1 {x : Int32} (h : U x % 2 = 1) : 1 ≤ U x := by omega
theorem own_f32 : ∀ t : Fin 32, (Int32.ofNat t.1).toInt = (t.1 : Int) ∧ ((((0 : Int32) + Int32.ofNat t.1).toUInt32 >>> ((5 : Int32) &&& 31).toUInt32).toInt32) = (0 : Int32) ∧ (((0 : Int32) + Int32.ofNat t.1) &&& (31 : Int32)) = Int32.ofNat t.1 ∧ ¬ ((0 : Int32) + Int32.ofNat t.1) < (0 : Int32) ∧ ((((32 : Int32) + Int32.ofNat t.1).toUInt32 >>> ((5 : Int32) &&& 31).toUInt32).toInt32) = (1 : Int32) ∧ (((32 : Int32) + Int32.ofNat t.1) &&& (31 : Int32)) = Int32.ofNat t.1 ∧ ¬ ((32 : Int32) + Int32.ofNat t.1) < (0 : Int32) ∧ ¬ ((0 : Int32) = (32 : Int32) + Int32.ofNat t.1) ∧ ((32 : Int32) - ((32 : Int32) - Int32.ofNat t.1)) = Int32.ofNat t.1 ∧ (Int32.ofNat t.1 = (0 : Int32) → t.1 = 0) ∧ ((0 : Int32) = (0 : Int32) + Int32.ofNat t.1 → t.1 = 0) := by decide +kernel
theorem own_or_odd {x y : Int32} (h : U y % 2 = 1) : U (x ||| y) % 2 = 1 := by
 have e : U (x ||| y) = U x ||| U y := by unfold U; rw [Int32.toBitVec_or, BitVec.toNat_or]
 rw [e, Nat.or_mod_two_eq_one]; exact Or.inr h
theorem own_lb1 {w : Int32} (h : 1 ≤ U w) : ∃ t : Nat, t < 32 ∧ (((Grmg1a w).toUInt32 >>> ((5 : Int32) &&& 31).toUInt32).toInt32) = (0 : Int32) ∧ ((Grmg1a w) &&& (31 : Int32)) = Int32.ofNat t ∧ ¬ (Grmg1a w) < (0 : Int32) ∧ 2 ^ t ≤ U w := by
 obtain ⟨t, ht, f, g, -, -⟩ := own_low h
 have e : Grmg1a w = (0 : Int32) + Int32.ofNat t := by unfold Grmg1a; rw [if_neg (own_neu h), f]
 have q := own_f32 ⟨t, ht⟩
 rw [e]
 exact ⟨t, ht, q.2.1, q.2.2.1, q.2.2.2.1, g⟩
theorem own_lb2a {x y : Int32} (h : ¬ y = (0 : Int32)) : ∃ t : Nat, t < 32 ∧ (((Grmg2 x y).toUInt32 >>> ((5 : Int32) &&& 31).toUInt32).toInt32) = (0 : Int32) ∧ ((Grmg2 x y) &&& (31 : Int32)) = Int32.ofNat t ∧ ¬ (Grmg2 x y) < (0 : Int32) ∧ (U y / 2 ^ t) % 2 = 1 := by
 obtain ⟨t, ht, f, -, -, g⟩ := own_low (own_une h)
 have e : Grmg2 x y = (0 : Int32) + Int32.ofNat t := by unfold Grmg2; rw [if_neg h, f]
 have q := own_f32 ⟨t, ht⟩
 rw [e]
 exact ⟨t, ht, q.2.1, q.2.2.1, q.2.2.2.1, g⟩
theorem own_lb2b {x y : Int32} (hy : y = (0 : Int32)) (h : 1 ≤ U x) : ∃ t : Nat, t < 32 ∧ (((Grmg2 x y).toUInt32 >>> ((5 : Int32) &&& 31).toUInt32).toInt32) = (1 : Int32) ∧ ((Grmg2 x y) &&& (31 : Int32)) = Int32.ofNat t ∧ ¬ (Grmg2 x y) < (0 : Int32) ∧ 2 ^ t ≤ U x := by
 obtain ⟨t, ht, f, g, -, -⟩ := own_low h
 have e : Grmg2 x y = (32 : Int32) + Int32.ofNat t := by unfold Grmg2; rw [if_pos hy, if_neg (own_neu h), f]
 have q := own_f32 ⟨t, ht⟩
 rw [e]
 exact ⟨t, ht, q.2.2.2.2.1, q.2.2.2.2.2.1, q.2.2.2.2.2.2.1, g⟩
theorem own_g2nn {x y : Int32} (h : 1 ≤ U x) : ¬ (Grmg2 x y) < (0 : Int32) := by
 by_cases hy : y = (0 : Int32)
 ·obtain ⟨t, -, -, -, q, -⟩ := own_lb2b hy h; exact q
 ·obtain ⟨t, -, -, -, q, -⟩ := own_lb2a (x := x) hy; exact q
theorem own_g1nn {x : Int32} (h : 1 ≤ U x) : ¬ (Grmg1a x) < (0 : Int32) := by obtain ⟨t, -, -, -, q, -⟩ := own_lb1 h; exact q
theorem own_g2odd {x y : Int32} (h : 1 ≤ U x) (h0 : (0 : Int32) = Grmg2 x y) : U y % 2 = 1 := by
 by_cases hy : y = (0 : Int32)
 ·obtain ⟨t, ht, f, g, -, -⟩ := own_low h
  have e : Grmg2 x y = (32 : Int32) + Int32.ofNat t := by unfold Grmg2; rw [if_pos hy, if_neg (own_neu h), f]
  rw [e] at h0
  exact absurd h0 (own_f32 ⟨t, ht⟩).2.2.2.2.2.2.2.1
 ·obtain ⟨t, ht, f, -, -, g⟩ := own_low (own_une hy)
  have e : Grmg2 x y = (0 : Int32) + Int32.ofNat t := by unfold Grmg2; rw [if_neg hy, f]
  rw [e] at h0
  have q := (own_f32 ⟨t, ht⟩).2.2.2.2.2.2.2.2.2.2 h0
  dsimp only at q
  subst q
  simpa using g
theorem own_mle {x y a b : Int32} {t : Nat} (ha : U a = U x / 2 ^ t) (ht : ¬ t = 0) (hx : 1 ≤ U x) : MM a b ≤ MM x y := by
 have l := U.lt b
 have p : 2 ^ 1 ≤ 2 ^ t := Nat.pow_le_pow_right (by decide) (by omega)
 have q : U x / 2 ^ t ≤ U x / 2 ^ 1 := Nat.div_le_div_left p (by decide)
 unfold MM
 rw [ha]
 omega
theorem own_mlt {x y : Int32} (h : U y % 2 = 1) : MM x (y - (1 : Int32)) < MM x y := by
 have e := own_sub1 (x := y) (own_odd1 h)
 unfold MM
 rw [e]
 omega
theorem own_m64 (w : Int32) : ((w).toInt64 &&& (4294967295 : Int64)).toInt = (U w : Int) := by
 have a := c_maskL (w.toInt64) (4294967295 : Int64) 32 (by decide) (by decide)
 rw [c_i2l] at a
 have u := own_ur w
 have l := U.lt w
 rw [a]
 show w.toInt % ((4294967296 : Nat) : Int) = _
 omega
theorem own_q1 (w : Int32) : (((w).toInt64 &&& (4294967295 : Int64)) / (1 : Int64)).toInt32 = w := by
 have m := own_m64 w
 have d := (c_ldiv ((w).toInt64 &&& (4294967295 : Int64)) (1 : Int64) 1 rfl (by decide)).1 (by omega)
 have a := c_l2i (((w).toInt64 &&& (4294967295 : Int64)) / (1 : Int64))
 have u := own_ur w
 have r := rng32 w
 have r2 := rng32 ((((w).toInt64 &&& (4294967295 : Int64)) / (1 : Int64)).toInt32)
 rw [m, Int.ediv_one] at d
 exact Int32.toInt_inj.mp (by omega)
theorem own_r1 (w : Int32) : (((w).toInt64 &&& (4294967295 : Int64)) - ((w).toInt64 * (1 : Int64))).toInt32 = (0 : Int32) := by
 have m := own_m64 w
 have a := c_l2i (((w).toInt64 &&& (4294967295 : Int64)) - ((w).toInt64 * (1 : Int64)))
 have b := c_lsub ((w).toInt64 &&& (4294967295 : Int64)) ((w).toInt64 * (1 : Int64))
 have d := c_lmul ((w).toInt64) (1 : Int64)
 rw [c_i2l, show (1 : Int64).toInt = 1 from rfl] at d
 have u := own_ur w
 have r2 := rng32 ((((w).toInt64 &&& (4294967295 : Int64)) - ((w).toInt64 * (1 : Int64))).toInt32)
 exact Int32.toInt_inj.mp (by rw [show (0 : Int32).toInt = 0 from rfl]; omega)
theorem own_or1 (w : Int32) : (((0 : Int64) <<< ((32 : Int32) &&& 0x3f).toInt64) ||| ((w).toInt64 &&& (4294967295 : Int64))) = ((w).toInt64 &&& (4294967295 : Int64)) := by
 rw [show ((0 : Int64) <<< ((32 : Int32) &&& 0x3f).toInt64) = 0 from by decide, Int64.zero_or]
theorem own_m64nn (w : Int32) : ¬ ((w).toInt64 &&& (4294967295 : Int64)) < (0 : Int64) := by
 rw [Int64.lt_iff_toInt_lt, own_m64, show (0 : Int64).toInt = 0 from rfl]; omega
theorem own_m64ge {w : Int32} (h : ¬ w = (0 : Int32)) : ¬ ((w).toInt64 &&& (4294967295 : Int64)) < (1 : Int64) := by
 have u := own_une h
 rw [Int64.lt_iff_toInt_lt, own_m64, show (1 : Int64).toInt = 1 from rfl]; omega
theorem own_dif {w : Int32} (h : 1 ≤ U w) : ¬ ((((w).toInt64 &&& (4294967295 : Int64)) - (1 : Int64)) + (0 : Int64)) < (0 : Int64) ∧ ((((w).toInt64 &&& (4294967295 : Int64)) - (1 : Int64)) + (0 : Int64)).toInt32 = w - (1 : Int32) := by
 have m := own_m64 w
 have b := c_lsub ((w).toInt64 &&& (4294967295 : Int64)) (1 : Int64)
 rw [show (1 : Int64).toInt = 1 from rfl] at b
 have r := rng64 (((w).toInt64 &&& (4294967295 : Int64)) - (1 : Int64))
 have l := U.lt w
 rw [Int64.add_zero]
 constructor
 ·rw [Int64.lt_iff_toInt_lt, show (0 : Int64).toInt = 0 from rfl]; omega
 ·have a := c_l2i (((w).toInt64 &&& (4294967295 : Int64)) - (1 : Int64))
  have d := c_isub w (1 : Int32)
  have u := own_ur w
  have r2 := rng32 ((((w).toInt64 &&& (4294967295 : Int64)) - (1 : Int64)).toInt32)
  have r3 := rng32 (w - (1 : Int32))
  rw [show (1 : Int32).toInt = 1 from rfl] at d
  exact Int32.toInt_inj.mp (by omega)
theorem own_cmp1 {a : Int32} (h : ¬ a = (0 : Int32)) : ¬ (a + (-2147483648 : Int32)) < ((1 : Int32) + (-2147483648 : Int32)) := by
 rw [Int32.lt_iff_toInt_lt]
 have hu := own_une h
 have c1 := c_iadd a (-2147483648 : Int32)
 have r := rng32 (a + (-2147483648 : Int32))
 have u := own_ur a
 have l := U.lt a
 have e : ((1 : Int32) + (-2147483648 : Int32)).toInt = -2147483647 := by decide
 have m : (-2147483648 : Int32).toInt = -2147483648 := by decide
 rw [e]; omega
theorem d18_0 : dq cd8 0 (.aload_n 0) 1 := by decide +kernel
theorem d18_1 : dq cd8 1 (.invokespecial 5) 3 := by decide +kernel
theorem d18_4 : dq cd8 4 (.aload_n 0) 1 := by decide +kernel
theorem d18_5 : dq cd8 5 (.iconst 0) 1 := by decide +kernel
theorem d18_6 : dq cd8 6 (.putfield 11) 3 := by decide +kernel
theorem d18_9 : dq cd8 9 (.aload_n 0) 1 := by decide +kernel
theorem d18_10 : dq cd8 10 (.iconst 1) 1 := by decide +kernel
theorem d18_11 : dq cd8 11 (.newarray .int) 2 := by decide +kernel
theorem d18_13 : dq cd8 13 (.putfield 17) 3 := by decide +kernel
theorem d18_16 : dq cd8 16 (.aload_n 0) 1 := by decide +kernel
theorem d18_17 : dq cd8 17 (.iconst 0) 1 := by decide +kernel
theorem d18_18 : dq cd8 18 (.putfield 21) 3 := by decide +kernel
theorem d18_21 : dq cd8 21 .return_ 1 := by decide +kernel
theorem ef_18 (m : MethodId) (a1 : Addr) : entryFrame m #[(.ref a1)] 1 = mkF m 0 #[.val (.ref a1)] [] := by first | (simp [entryFrame, mkF, argsToLocals, Value.category]; done) | rfl
theorem mi0 (l : Launch) (Z : State) (a0 : Array Value) (hw : HH a0 Z) (ws : List Jvm.Cond) (a1 : Addr) (h0 : Heap) (n0 : Nat) (Z0 : n0 ≤ h0.size) (E_a1 : Fl3 Z h0 a1) (F_a1_value : Fl0 Z h0 a1 .null) (F_a1_intLen : Fl1 Z h0 a1 (.int 0)) (F_a1_offset : Fl2 Z h0 a1 (.int 0)) (g_a1 : n0 ≤ a1) : MF l "java/math/MutableBigInteger" "<init>" "()V" jdk_2101_method_1_code 1 none ws ⟨1, 1, 1, 12⟩ Z h0 #[(.ref a1)] (fun v h L => ∃ (bv : Addr), v = none ∧ Fr n0 L ∧ Keep h0 h [a1] ∧ Fl3 Z h a1 ∧ Fl0 Z h a1 (.ref bv) ∧ Fl1 Z h a1 (.int 0) ∧ Fl2 Z h a1 (.int 0) ∧ Ax Z h bv .int [(.int 0)] ∧ Fl4 Z h bv ∧ h0.size ≤ bv) := by
 refine own_body (n0 := n0) (plainFor_of_name pn_27) (fun m => ef_18 m a1) ?_
 intro p e s m below meth c s₁ hZ hx hby hml hown hlk hret hnm X0 e0 N0
 show Aq s₁ 0 #[vr a1] []
 refine aN X0 hx hby d18_0 rfl rfl ?_
 obtain ⟨T101, X101, e101, st101⟩ := initO X0 hx hZ hown (tw107 hw) (tw8 hw) (tw9 hw) e0 (g := (mkF m 1 #[vr a1] [(.ref a1)])) rfl (by rw [hml]; rfl) rfl (hb hby d18_1) (by decide) (W := 0) (by show 2 * 0 + _ ≤ _; exact Nat.le_of_eq rfl) (by decide)
 refine dS st101 ?_
 show Aq T101 4 #[vr a1] []
 refine aN X101 hx hby d18_4 rfl rfl ?_
 refine iC X101 hx hby d18_5 (z := 0) rfl ?_
 obtain ⟨T102, h102, X102, e102, W102, st102⟩ := putF X101 hx hZ hown (host := "") (Or.inl (tw108 hw)) Via.refl e101 F_a1_offset E_a1 (Or.inl (tw109 hw)) (tw101 hw) (ty := .int) (by decide) rfl rfl (g := (mkF m 6 #[vr a1] [(.int 0), (.ref a1)])) rfl rfl (hb hby d18_6)
 have f103 := F_a1_value.other W102 (Or.inr (sq0 hw))
 have f104 := F_a1_intLen.other W102 (Or.inr (sq1 hw))
 have f105 := F_a1_offset.same W102
 refine dS st102 ?_
 show Aq T102 9 #[vr a1] []
 refine aN X102 hx hby d18_9 rfl rfl ?_
 refine iC X102 hx hby d18_10 (z := 1) rfl ?_
 obtain ⟨T106, h106, k106, X106, e106, E106, A106, B106, st106⟩ := newPE X102 hx hZ (hw _ (List.mem_of_getElem? (i := 0) rfl)) e102 (g := (mkF m 11 #[vr a1] [(.int 1), (.ref a1)])) rfl (hb hby d18_11) rfl (by decide) (cap := 1) (by decide) (by decide) (by decide) (by decide) (ad := "[I") (by decide)
 obtain ⟨b106, gq106⟩ : ∃ z, z = h102.size := ⟨_, rfl⟩
 rw [← gq106] at A106 B106 st106
 have sz_b106 := lb ((kr h0 [a1]).wr W102 (Or.inl me0)).1 gq106
 have f107 : Ax Z h106 b106 .int [(.int 0)] := Ax.new (ty := .int) (i := 1) A106 (by decide)
 refine dS st106 ?_
 show Aq T106 13 #[vr a1] [(.ref b106), (.ref a1)]
 obtain ⟨T108, h108, X108, e108, W108, st108⟩ := putF X106 hx hZ hown (host := "") (Or.inl (tw127 hw)) Via.refl e106 (f103.ext E106) ((E_a1.wr W102).ext E106) (Or.inl (tw128 hw)) (tw101 hw) (ty := (.array .int)) (by decide) rfl rfl (g := (mkF m 13 #[vr a1] [(.ref b106), (.ref a1)])) rfl rfl (hb hby d18_13)
 have f109 := (f103.ext E106).same W108
 have f110 := (f104.ext E106).other W108 (Or.inr (sq2 hw))
 have f111 := (f105.ext E106).other W108 (Or.inr (sq3 hw))
 have ne112 := nl (E_a1.wr W102).lt gq106
 have K108 := (((kr h0 [a1]).wr W102 (Or.inl me0)).ext E106).wr W108 (Or.inl me0)
 refine dS st108 ?_
 show Aq T108 16 #[vr a1] []
 refine aN X108 hx hby d18_16 rfl rfl ?_
 refine iC X108 hx hby d18_17 (z := 0) rfl ?_
 obtain ⟨T113, h113, X113, e113, W113, st113⟩ := putF X108 hx hZ hown (host := "") (Or.inl (tw112 hw)) Via.refl e108 f110 (((E_a1.wr W102).ext E106).wr W108) (Or.inl (tw113 hw)) (tw101 hw) (ty := .int) (by decide) rfl rfl (g := (mkF m 18 #[vr a1] [(.int 0), (.ref a1)])) rfl rfl (hb hby d18_18)
 have f114 := f109.other W113 (Or.inr (sq4 hw))
 have f115 := f110.same W113
 have f116 := f111.other W113 (Or.inr (sq5 hw))
 refine dS st113 ?_
 show Aq T113 21 #[vr a1] []
 exact Done.void X113 hx hlk hret (hb hby d18_21) (by decide) (by decide) ⟨b106, rfl, (Fr.snoc X113 (Fr.snoc X108 (Fr.snoc X102 N0 g_a1) g_a1) g_a1), (by rw [e113]; exact ⟨(K108.wr W113 (Or.inl me0)), ((((E_a1.wr W102).ext E106).wr W108).wr W113), f114, f115, f116, ((f107.other W108 ne112.symm).other W113 ne112.symm), ((B106.wr W108).wr W113), sz_b106⟩)⟩
theorem d16_0 : dq cd9 0 (.iload_n 1) 1 := by decide +kernel
theorem d16_1 : dq cd9 1 (.aload_n 0) 1 := by decide +kernel
theorem d16_2 : dq cd9 2 .arraylength 1 := by decide +kernel
theorem d16_3 : dq cd9 3 (.if_icmp .ne 11) 3 := by decide +kernel
theorem d16_6 : dq cd9 6 (.aload_n 0) 1 := by decide +kernel
theorem d16_7 : dq cd9 7 (.invokevirtual 316) 3 := by decide +kernel
theorem d16_10 : dq cd9 10 (.checkcast 317) 3 := by decide +kernel
theorem d16_13 : dq cd9 13 .areturn 1 := by decide +kernel
theorem pn_16 : plainName "java/util/Arrays" = true := by first | (simp [plainName, overriddenIn]; done) | decide +kernel
theorem ef_16 (m : MethodId) (a1 : Addr) (p2 : Int32) : entryFrame m #[(.ref a1), (.int p2)] 3 = mkF m 0 #[.val (.ref a1), .val (.int p2), .unset] [] := by first | (simp [entryFrame, mkF, argsToLocals, Value.category]; done) | rfl
theorem co1 (l : Launch) (Z : State) (a0 : Array Value) (hw : HH a0 Z) (ws : List Jvm.Cond) (a1 : Addr) (p2 w0 : Int32) (h0 : Heap) (n0 : Nat) (Z0 : n0 ≤ h0.size) (hl_p2 : p2 = (1 : Int32)) (E_a1 : Fl4 Z h0 a1) (A_a1 : Ax Z h0 a1 .int [(.int w0)]) : MF l "java/util/Arrays" "copyOf" "([II)[I" jdk_65_method_123_code 3 (some (.array .int)) ws ⟨1, 1, 1, 14⟩ Z h0 #[(.ref a1), (.int p2)] (fun v h L => ∃ (bv : Addr), v = some (.ref bv) ∧ Fr n0 L ∧ Keep h0 h [] ∧ Ax Z h bv .int [(.int w0)] ∧ Fl4 Z h bv ∧ h0.size ≤ bv) := by
 refine own_body (n0 := n0) (plainFor_of_name pn_16) (fun m => ef_16 m a1 p2) ?_
 intro p e s m below meth c s₁ hZ hx hby hml hown hlk hret hnm X0 e0 N0
 subst hl_p2
 show Aq s₁ 0 #[vr a1, vi 1, vu] []
 refine iN X0 hx hby d16_0 rfl ?_
 refine aN X0 hx hby d16_1 rfl rfl ?_
 refine dS (lenA X0 hx hZ e0 A_a1 (n := (1 : Int32)) rfl (g := (mkF m 2 #[vr a1, vi 1, vu] [(.ref a1), (.int 1)])) rfl rfl (hb hby d16_2)) ?_
 show Aq s₁ 3 #[vr a1, vi 1, vu] [(.int 1), (.int 1)]
 refine cF X0 hx hby d16_3 (teq (by decide)).2 ?_
 refine aN X0 hx hby d16_6 rfl rfl ?_
 obtain ⟨T101, h101, X101, e101, E101, A101, B101, st101⟩ := cloX X0 hx hZ hown (tw118 hw) (tw119 hw) (tw123 hw) (tw121 hw) (tw122 hw) (tw124 hw) e0 A_a1 E_a1 (by simp [fits]) (g := (mkF m 7 #[vr a1, vi 1, vu] [(.ref a1)])) rfl (by rw [hml]; rfl) rfl (hb hby d16_7) (by decide) (W := 0) (cap := 1) (by show 2 * 0 + _ ≤ _; exact Nat.le_of_eq rfl) (by decide) (Nat.le_of_ble_eq_true rfl) (by decide) (by decide)
 obtain ⟨b101, gq101⟩ : ∃ z, z = h0.size := ⟨_, rfl⟩
 rw [← gq101] at A101 B101 st101
 have sz_b101 := lb (kr h0 []).1 gq101
 refine dS st101 ?_
 show Aq T101 10 #[vr a1, vi 1, vu] [(.ref b101)]
 obtain ⟨T102, X102, e102, st102⟩ := castY X101 hx hZ hown (tw125 hw) e101 (Ins.self B101) (g := (mkF m 10 #[vr a1, vi 1, vu] [(.ref b101)])) rfl rfl (hb hby d16_10)
 refine dS st102 ?_
 show Aq T102 13 #[vr a1, vi 1, vu] [(.ref b101)]
 exact Done.ref X102 hx hlk hret rfl rfl rfl (hb hby d16_13) (by decide) (by decide) ⟨b101, rfl, N0, (by rw [e102]; exact ⟨((kr h0 []).ext E101), A101, B101, sz_b101⟩)⟩
theorem co2 (l : Launch) (Z : State) (a0 : Array Value) (hw : HH a0 Z) (ws : List Jvm.Cond) (a1 : Addr) (p2 w0 w1 : Int32) (h0 : Heap) (n0 : Nat) (Z0 : n0 ≤ h0.size) (hl_p2 : p2 = (2 : Int32)) (E_a1 : Fl4 Z h0 a1) (A_a1 : Ax Z h0 a1 .int [(.int w0), (.int w1)]) : MF l "java/util/Arrays" "copyOf" "([II)[I" jdk_65_method_123_code 3 (some (.array .int)) ws ⟨1, 1, 2, 14⟩ Z h0 #[(.ref a1), (.int p2)] (fun v h L => ∃ (bv : Addr), v = some (.ref bv) ∧ Fr n0 L ∧ Keep h0 h [] ∧ Ax Z h bv .int [(.int w0), (.int w1)] ∧ Fl4 Z h bv ∧ h0.size ≤ bv) := by
 refine own_body (n0 := n0) (plainFor_of_name pn_16) (fun m => ef_16 m a1 p2) ?_
 intro p e s m below meth c s₁ hZ hx hby hml hown hlk hret hnm X0 e0 N0
 subst hl_p2
 show Aq s₁ 0 #[vr a1, vi 2, vu] []
 refine iN X0 hx hby d16_0 rfl ?_
 refine aN X0 hx hby d16_1 rfl rfl ?_
 refine dS (lenA X0 hx hZ e0 A_a1 (n := (2 : Int32)) rfl (g := (mkF m 2 #[vr a1, vi 2, vu] [(.ref a1), (.int 2)])) rfl rfl (hb hby d16_2)) ?_
 show Aq s₁ 3 #[vr a1, vi 2, vu] [(.int 2), (.int 2)]
 refine cF X0 hx hby d16_3 (teq (by decide)).2 ?_
 refine aN X0 hx hby d16_6 rfl rfl ?_
 obtain ⟨T101, h101, X101, e101, E101, A101, B101, st101⟩ := cloX X0 hx hZ hown (tw118 hw) (tw119 hw) (tw123 hw) (tw121 hw) (tw122 hw) (tw124 hw) e0 A_a1 E_a1 (by simp [fits]) (g := (mkF m 7 #[vr a1, vi 2, vu] [(.ref a1)])) rfl (by rw [hml]; rfl) rfl (hb hby d16_7) (by decide) (W := 0) (cap := 2) (by show 2 * 0 + _ ≤ _; exact Nat.le_of_eq rfl) (by decide) (Nat.le_of_ble_eq_true rfl) (by decide) (by decide)
 obtain ⟨b101, gq101⟩ : ∃ z, z = h0.size := ⟨_, rfl⟩
 rw [← gq101] at A101 B101 st101
 have sz_b101 := lb (kr h0 []).1 gq101
 refine dS st101 ?_
 show Aq T101 10 #[vr a1, vi 2, vu] [(.ref b101)]
 obtain ⟨T102, X102, e102, st102⟩ := castY X101 hx hZ hown (tw125 hw) e101 (Ins.self B101) (g := (mkF m 10 #[vr a1, vi 2, vu] [(.ref b101)])) rfl rfl (hb hby d16_10)
 refine dS st102 ?_
 show Aq T102 13 #[vr a1, vi 2, vu] [(.ref b101)]
 exact Done.ref X102 hx hlk hret rfl rfl rfl (hb hby d16_13) (by decide) (by decide) ⟨b101, rfl, N0, (by rw [e102]; exact ⟨((kr h0 []).ext E101), A101, B101, sz_b101⟩)⟩
theorem d15_0 : dq cd10 0 (.aload_n 0) 1 := by decide +kernel
theorem d15_1 : dq cd10 1 (.invokespecial 5) 3 := by decide +kernel
theorem d15_4 : dq cd10 4 (.aload_n 0) 1 := by decide +kernel
theorem d15_5 : dq cd10 5 (.iconst 0) 1 := by decide +kernel
theorem d15_6 : dq cd10 6 (.putfield 11) 3 := by decide +kernel
theorem d15_9 : dq cd10 9 (.aload_n 0) 1 := by decide +kernel
theorem d15_10 : dq cd10 10 (.aload_n 1) 1 := by decide +kernel
theorem d15_11 : dq cd10 11 (.getfield 24) 3 := by decide +kernel
theorem d15_14 : dq cd10 14 .arraylength 1 := by decide +kernel
theorem d15_15 : dq cd10 15 (.putfield 21) 3 := by decide +kernel
theorem d15_18 : dq cd10 18 (.aload_n 0) 1 := by decide +kernel
theorem d15_19 : dq cd10 19 (.aload_n 1) 1 := by decide +kernel
theorem d15_20 : dq cd10 20 (.getfield 24) 3 := by decide +kernel
theorem d15_23 : dq cd10 23 (.aload_n 0) 1 := by decide +kernel
theorem d15_24 : dq cd10 24 (.getfield 21) 3 := by decide +kernel
theorem d15_27 : dq cd10 27 (.invokestatic 27) 3 := by decide +kernel
theorem d15_30 : dq cd10 30 (.putfield 17) 3 := by decide +kernel
theorem d15_33 : dq cd10 33 .return_ 1 := by decide +kernel
theorem ef_15 (m : MethodId) (a1 : Addr) (a2 : Addr) : entryFrame m #[(.ref a1), (.ref a2)] 2 = mkF m 0 #[.val (.ref a1), .val (.ref a2)] [] := by first | (simp [entryFrame, mkF, argsToLocals, Value.category]; done) | rfl
theorem mib1 (l : Launch) (Z : State) (a0 : Array Value) (hw : HH a0 Z) (ws : List Jvm.Cond) (a1 a2 vm : Addr) (w0 : Int32) (h0 : Heap) (n0 : Nat) (Z0 : n0 ≤ h0.size) (E_a1 : Fl3 Z h0 a1) (F_a1_value : Fl0 Z h0 a1 .null) (F_a1_intLen : Fl1 Z h0 a1 (.int 0)) (F_a1_offset : Fl2 Z h0 a1 (.int 0)) (g_a1 : n0 ≤ a1) (F_a2_mag : Fl5 Z h0 a2 (.ref vm)) (E_vm : Fl4 Z h0 vm) (A_vm : Ax Z h0 vm .int [(.int w0)]) (ne_a1_a2 : a1 ≠ a2) (ne_a1_vm : a1 ≠ vm) : MF l "java/math/MutableBigInteger" "<init>" "(Ljava/math/BigInteger;)V" jdk_2101_method_4_code 2 none ws ⟨2, 1, 1, 29⟩ Z h0 #[(.ref a1), (.ref a2)] (fun v h L => ∃ (bv : Addr), v = none ∧ Fr n0 L ∧ Keep h0 h [a1] ∧ Fl3 Z h a1 ∧ Fl0 Z h a1 (.ref bv) ∧ Fl1 Z h a1 (.int 1) ∧ Fl2 Z h a1 (.int 0) ∧ Ax Z h bv .int [(.int w0)] ∧ Fl4 Z h bv ∧ h0.size ≤ bv) := by
 refine own_body (n0 := n0) (plainFor_of_name pn_27) (fun m => ef_15 m a1 a2) ?_
 intro p e s m below meth c s₁ hZ hx hby hml hown hlk hret hnm X0 e0 N0
 show Aq s₁ 0 #[vr a1, vr a2] []
 refine aN X0 hx hby d15_0 rfl rfl ?_
 obtain ⟨T101, X101, e101, st101⟩ := initO X0 hx hZ hown (tw107 hw) (tw8 hw) (tw9 hw) e0 (g := (mkF m 1 #[vr a1, vr a2] [(.ref a1)])) rfl (by rw [hml]; rfl) rfl (hb hby d15_1) (by decide) (W := 0) (by show 2 * 0 + _ ≤ _; exact Nat.le_of_eq rfl) (by decide)
 refine dS st101 ?_
 show Aq T101 4 #[vr a1, vr a2] []
 refine aN X101 hx hby d15_4 rfl rfl ?_
 refine iC X101 hx hby d15_5 (z := 0) rfl ?_
 obtain ⟨T102, h102, X102, e102, W102, st102⟩ := putF X101 hx hZ hown (host := "") (Or.inl (tw108 hw)) Via.refl e101 F_a1_offset E_a1 (Or.inl (tw109 hw)) (tw101 hw) (ty := .int) (by decide) rfl rfl (g := (mkF m 6 #[vr a1, vr a2] [(.int 0), (.ref a1)])) rfl rfl (hb hby d15_6)
 have f103 := F_a1_value.other W102 (Or.inr (sq0 hw))
 have f104 := F_a1_intLen.other W102 (Or.inr (sq1 hw))
 have f105 := F_a1_offset.same W102
 refine dS st102 ?_
 show Aq T102 9 #[vr a1, vr a2] []
 refine aN X102 hx hby d15_9 rfl rfl ?_
 refine aN X102 hx hby d15_10 rfl rfl ?_
 obtain ⟨T106, X106, e106, st106⟩ := gF X102 hx hZ hown (tw110 hw) e102 (F_a2_mag.other W102 (Or.inl ne_a1_a2.symm)) (g := (mkF m 11 #[vr a1, vr a2] [(.ref a2), (.ref a1)])) rfl rfl (hb hby d15_11)
 refine dS st106 ?_
 show Aq T106 14 #[vr a1, vr a2] [(.ref vm), (.ref a1)]
 refine dS (lenA X106 hx hZ e106 (A_vm.other W102 ne_a1_vm.symm) (n := (1 : Int32)) rfl (g := (mkF m 14 #[vr a1, vr a2] [(.ref vm), (.ref a1)])) rfl rfl (hb hby d15_14)) ?_
 show Aq T106 15 #[vr a1, vr a2] [(.int 1), (.ref a1)]
 obtain ⟨T107, h107, X107, e107, W107, st107⟩ := putF X106 hx hZ hown (host := "") (Or.inl (tw112 hw)) Via.refl e106 f104 (E_a1.wr W102) (Or.inl (tw113 hw)) (tw101 hw) (ty := .int) (by decide) rfl rfl (g := (mkF m 15 #[vr a1, vr a2] [(.int 1), (.ref a1)])) rfl rfl (hb hby d15_15)
 have f108 := f103.other W107 (Or.inr (sq4 hw))
 have f109 := f104.same W107
 have f110 := f105.other W107 (Or.inr (sq5 hw))
 have f111 := (F_a2_mag.other W102 (Or.inl ne_a1_a2.symm)).other W107 (Or.inl ne_a1_a2.symm)
 refine dS st107 ?_
 show Aq T107 18 #[vr a1, vr a2] []
 refine aN X107 hx hby d15_18 rfl rfl ?_
 refine aN X107 hx hby d15_19 rfl rfl ?_
 obtain ⟨T112, X112, e112, st112⟩ := gF X107 hx hZ hown (tw110 hw) e107 f111 (g := (mkF m 20 #[vr a1, vr a2] [(.ref a2), (.ref a1)])) rfl rfl (hb hby d15_20)
 refine dS st112 ?_
 show Aq T112 23 #[vr a1, vr a2] [(.ref vm), (.ref a1)]
 refine aN X112 hx hby d15_23 rfl rfl ?_
 obtain ⟨T113, X113, e113, st113⟩ := gF X112 hx hZ hown (tw112 hw) e112 f109 (g := (mkF m 24 #[vr a1, vr a2] [(.ref a1), (.ref vm), (.ref a1)])) rfl rfl (hb hby d15_24)
 refine dS st113 ?_
 show Aq T113 27 #[vr a1, vr a2] [(.int 1), (.ref vm), (.ref a1)]
 obtain ⟨v114, T114, L114, X114, hQ114, st114⟩ := cS X113 hx hZ hown (tw114 hw) (tw115 hw) (tw116 hw) (tw117 hw) (co1 l Z a0 hw [] vm (1 : Int32) w0 h107 n0 (lw (lw Z0 W102) W107) rfl ((E_vm.wr W102).wr W107) ((A_vm.other W102 ne_a1_vm.symm).other W107 ne_a1_vm.symm)) (W := 1) e113 (g := (mkF m 27 #[vr a1, vr a2] [(.int 1), (.ref vm), (.ref a1)])) rfl hml rfl (argsL := [(.ref vm), (.int 1)]) (rest := [(.ref a1)]) (lenOf pd_1 rfl) rfl rfl rfl (hb hby d15_27) rfl
 refine dS st114 ?_
 obtain ⟨bv_114, rfl, N114q, K114q, y114_0, y114_1, z114_2⟩ := hQ114
 have sz_bv_114 := lq (((kr h0 [a1]).wr W102 (Or.inl me0)).wr W107 (Or.inl me0)).1 z114_2
 have f115 := ((A_vm.other W102 ne_a1_vm.symm).other W107 ne_a1_vm.symm).keep K114q nin0
 have Kk114 := (((kr h0 [a1]).wr W102 (Or.inl me0)).wr W107 (Or.inl me0)).trans K114q all0
 show Aq T114 30 #[vr a1, vr a2] [(.ref bv_114), (.ref a1)]
 obtain ⟨T116, h116, X116, e116, W116, st116⟩ := putF X114 hx hZ hown (host := "") (Or.inl (tw127 hw)) Via.refl rfl (f108.keep K114q nin0) (((E_a1.wr W102).wr W107).keep K114q) (Or.inl (tw128 hw)) (tw101 hw) (ty := (.array .int)) (by decide) rfl rfl (g := (mkF m 30 #[vr a1, vr a2] [(.ref bv_114), (.ref a1)])) rfl rfl (hb hby d15_30)
 have f117 := (f108.keep K114q nin0).same W116
 have f118 := (f109.keep K114q nin0).other W116 (Or.inr (sq2 hw))
 have f119 := (f110.keep K114q nin0).other W116 (Or.inr (sq3 hw))
 have ne120 := nz ((E_a1.wr W102).wr W107).lt z114_2
 have N116 := Fr.snoc X116 (Fr.app (Fr.snoc X107 (Fr.snoc X102 N0 g_a1) g_a1) N114q) g_a1
 refine dS st116 ?_
 show Aq T116 33 #[vr a1, vr a2] []
 exact Done.void X116 hx hlk hret (hb hby d15_33) (by decide) (by decide) ⟨bv_114, rfl, N116, (by rw [e116]; exact ⟨(Kk114.wr W116 (Or.inl me0)), ((((E_a1.wr W102).wr W107).keep K114q).wr W116), f117, f118, f119, (y114_0.other W116 ne120.symm), (y114_1.wr W116), sz_bv_114⟩)⟩
theorem mib2 (l : Launch) (Z : State) (a0 : Array Value) (hw : HH a0 Z) (ws : List Jvm.Cond) (a1 a2 vm : Addr) (w0 w1 : Int32) (h0 : Heap) (n0 : Nat) (Z0 : n0 ≤ h0.size) (E_a1 : Fl3 Z h0 a1) (F_a1_value : Fl0 Z h0 a1 .null) (F_a1_intLen : Fl1 Z h0 a1 (.int 0)) (F_a1_offset : Fl2 Z h0 a1 (.int 0)) (g_a1 : n0 ≤ a1) (F_a2_mag : Fl5 Z h0 a2 (.ref vm)) (E_vm : Fl4 Z h0 vm) (A_vm : Ax Z h0 vm .int [(.int w0), (.int w1)]) (ne_a1_a2 : a1 ≠ a2) (ne_a1_vm : a1 ≠ vm) : MF l "java/math/MutableBigInteger" "<init>" "(Ljava/math/BigInteger;)V" jdk_2101_method_4_code 2 none ws ⟨2, 1, 2, 29⟩ Z h0 #[(.ref a1), (.ref a2)] (fun v h L => ∃ (bv : Addr), v = none ∧ Fr n0 L ∧ Keep h0 h [a1] ∧ Fl3 Z h a1 ∧ Fl0 Z h a1 (.ref bv) ∧ Fl1 Z h a1 (.int 2) ∧ Fl2 Z h a1 (.int 0) ∧ Ax Z h bv .int [(.int w0), (.int w1)] ∧ Fl4 Z h bv ∧ h0.size ≤ bv) := by
 refine own_body (n0 := n0) (plainFor_of_name pn_27) (fun m => ef_15 m a1 a2) ?_
 intro p e s m below meth c s₁ hZ hx hby hml hown hlk hret hnm X0 e0 N0
 show Aq s₁ 0 #[vr a1, vr a2] []
 refine aN X0 hx hby d15_0 rfl rfl ?_
 obtain ⟨T101, X101, e101, st101⟩ := initO X0 hx hZ hown (tw107 hw) (tw8 hw) (tw9 hw) e0 (g := (mkF m 1 #[vr a1, vr a2] [(.ref a1)])) rfl (by rw [hml]; rfl) rfl (hb hby d15_1) (by decide) (W := 0) (by show 2 * 0 + _ ≤ _; exact Nat.le_of_eq rfl) (by decide)
 refine dS st101 ?_
 show Aq T101 4 #[vr a1, vr a2] []
 refine aN X101 hx hby d15_4 rfl rfl ?_
 refine iC X101 hx hby d15_5 (z := 0) rfl ?_
 obtain ⟨T102, h102, X102, e102, W102, st102⟩ := putF X101 hx hZ hown (host := "") (Or.inl (tw108 hw)) Via.refl e101 F_a1_offset E_a1 (Or.inl (tw109 hw)) (tw101 hw) (ty := .int) (by decide) rfl rfl (g := (mkF m 6 #[vr a1, vr a2] [(.int 0), (.ref a1)])) rfl rfl (hb hby d15_6)
 have f103 := F_a1_value.other W102 (Or.inr (sq0 hw))
 have f104 := F_a1_intLen.other W102 (Or.inr (sq1 hw))
 have f105 := F_a1_offset.same W102
 refine dS st102 ?_
 show Aq T102 9 #[vr a1, vr a2] []
 refine aN X102 hx hby d15_9 rfl rfl ?_
 refine aN X102 hx hby d15_10 rfl rfl ?_
 obtain ⟨T106, X106, e106, st106⟩ := gF X102 hx hZ hown (tw110 hw) e102 (F_a2_mag.other W102 (Or.inl ne_a1_a2.symm)) (g := (mkF m 11 #[vr a1, vr a2] [(.ref a2), (.ref a1)])) rfl rfl (hb hby d15_11)
 refine dS st106 ?_
 show Aq T106 14 #[vr a1, vr a2] [(.ref vm), (.ref a1)]
 refine dS (lenA X106 hx hZ e106 (A_vm.other W102 ne_a1_vm.symm) (n := (2 : Int32)) rfl (g := (mkF m 14 #[vr a1, vr a2] [(.ref vm), (.ref a1)])) rfl rfl (hb hby d15_14)) ?_
 show Aq T106 15 #[vr a1, vr a2] [(.int 2), (.ref a1)]
 obtain ⟨T107, h107, X107, e107, W107, st107⟩ := putF X106 hx hZ hown (host := "") (Or.inl (tw112 hw)) Via.refl e106 f104 (E_a1.wr W102) (Or.inl (tw113 hw)) (tw101 hw) (ty := .int) (by decide) rfl rfl (g := (mkF m 15 #[vr a1, vr a2] [(.int 2), (.ref a1)])) rfl rfl (hb hby d15_15)
 have f108 := f103.other W107 (Or.inr (sq4 hw))
 have f109 := f104.same W107
 have f110 := f105.other W107 (Or.inr (sq5 hw))
 have f111 := (F_a2_mag.other W102 (Or.inl ne_a1_a2.symm)).other W107 (Or.inl ne_a1_a2.symm)
 refine dS st107 ?_
 show Aq T107 18 #[vr a1, vr a2] []
 refine aN X107 hx hby d15_18 rfl rfl ?_
 refine aN X107 hx hby d15_19 rfl rfl ?_
 obtain ⟨T112, X112, e112, st112⟩ := gF X107 hx hZ hown (tw110 hw) e107 f111 (g := (mkF m 20 #[vr a1, vr a2] [(.ref a2), (.ref a1)])) rfl rfl (hb hby d15_20)
 refine dS st112 ?_
 show Aq T112 23 #[vr a1, vr a2] [(.ref vm), (.ref a1)]
 refine aN X112 hx hby d15_23 rfl rfl ?_
 obtain ⟨T113, X113, e113, st113⟩ := gF X112 hx hZ hown (tw112 hw) e112 f109 (g := (mkF m 24 #[vr a1, vr a2] [(.ref a1), (.ref vm), (.ref a1)])) rfl rfl (hb hby d15_24)
 refine dS st113 ?_
 show Aq T113 27 #[vr a1, vr a2] [(.int 2), (.ref vm), (.ref a1)]
 obtain ⟨v114, T114, L114, X114, hQ114, st114⟩ := cS X113 hx hZ hown (tw114 hw) (tw115 hw) (tw116 hw) (tw117 hw) (co2 l Z a0 hw [] vm (2 : Int32) w0 w1 h107 n0 (lw (lw Z0 W102) W107) rfl ((E_vm.wr W102).wr W107) ((A_vm.other W102 ne_a1_vm.symm).other W107 ne_a1_vm.symm)) (W := 1) e113 (g := (mkF m 27 #[vr a1, vr a2] [(.int 2), (.ref vm), (.ref a1)])) rfl hml rfl (argsL := [(.ref vm), (.int 2)]) (rest := [(.ref a1)]) (lenOf pd_1 rfl) rfl rfl rfl (hb hby d15_27) rfl
 refine dS st114 ?_
 obtain ⟨bv_114, rfl, N114q, K114q, y114_0, y114_1, z114_2⟩ := hQ114
 have sz_bv_114 := lq (((kr h0 [a1]).wr W102 (Or.inl me0)).wr W107 (Or.inl me0)).1 z114_2
 have f115 := ((A_vm.other W102 ne_a1_vm.symm).other W107 ne_a1_vm.symm).keep K114q nin0
 have Kk114 := (((kr h0 [a1]).wr W102 (Or.inl me0)).wr W107 (Or.inl me0)).trans K114q all0
 show Aq T114 30 #[vr a1, vr a2] [(.ref bv_114), (.ref a1)]
 obtain ⟨T116, h116, X116, e116, W116, st116⟩ := putF X114 hx hZ hown (host := "") (Or.inl (tw127 hw)) Via.refl rfl (f108.keep K114q nin0) (((E_a1.wr W102).wr W107).keep K114q) (Or.inl (tw128 hw)) (tw101 hw) (ty := (.array .int)) (by decide) rfl rfl (g := (mkF m 30 #[vr a1, vr a2] [(.ref bv_114), (.ref a1)])) rfl rfl (hb hby d15_30)
 have f117 := (f108.keep K114q nin0).same W116
 have f118 := (f109.keep K114q nin0).other W116 (Or.inr (sq2 hw))
 have f119 := (f110.keep K114q nin0).other W116 (Or.inr (sq3 hw))
 have ne120 := nz ((E_a1.wr W102).wr W107).lt z114_2
 have N116 := Fr.snoc X116 (Fr.app (Fr.snoc X107 (Fr.snoc X102 N0 g_a1) g_a1) N114q) g_a1
 refine dS st116 ?_
 show Aq T116 33 #[vr a1, vr a2] []
 exact Done.void X116 hx hlk hret (hb hby d15_33) (by decide) (by decide) ⟨bv_114, rfl, N116, (by rw [e116]; exact ⟨(Kk114.wr W116 (Or.inl me0)), ((((E_a1.wr W102).wr W107).keep K114q).wr W116), f117, f118, f119, (y114_0.other W116 ne120.symm), (y114_1.wr W116), sz_bv_114⟩)⟩
theorem d34_0 : dq cd11 0 (.aload_n 0) 1 := by decide +kernel
theorem d34_1 : dq cd11 1 (.invokespecial 5) 3 := by decide +kernel
theorem d34_4 : dq cd11 4 (.aload_n 0) 1 := by decide +kernel
theorem d34_5 : dq cd11 5 (.iconst 0) 1 := by decide +kernel
theorem d34_6 : dq cd11 6 (.putfield 11) 3 := by decide +kernel
theorem d34_9 : dq cd11 9 (.aload_n 0) 1 := by decide +kernel
theorem d34_10 : dq cd11 10 (.aload_n 1) 1 := by decide +kernel
theorem d34_11 : dq cd11 11 (.putfield 17) 3 := by decide +kernel
theorem d34_14 : dq cd11 14 (.aload_n 0) 1 := by decide +kernel
theorem d34_15 : dq cd11 15 (.aload_n 1) 1 := by decide +kernel
theorem d34_16 : dq cd11 16 .arraylength 1 := by decide +kernel
theorem d34_17 : dq cd11 17 (.putfield 21) 3 := by decide +kernel
theorem d34_20 : dq cd11 20 .return_ 1 := by decide +kernel
theorem ef_34 (m : MethodId) (a1 : Addr) (a2 : Addr) : entryFrame m #[(.ref a1), (.ref a2)] 2 = mkF m 0 #[.val (.ref a1), .val (.ref a2)] [] := by first | (simp [entryFrame, mkF, argsToLocals, Value.category]; done) | rfl
theorem mia0 (l : Launch) (Z : State) (a0 : Array Value) (hw : HH a0 Z) (ws : List Jvm.Cond) (a1 a2 : Addr) (h0 : Heap) (n0 : Nat) (Z0 : n0 ≤ h0.size) (E_a1 : Fl3 Z h0 a1) (F_a1_value : Fl0 Z h0 a1 .null) (F_a1_intLen : Fl1 Z h0 a1 (.int 0)) (F_a1_offset : Fl2 Z h0 a1 (.int 0)) (g_a1 : n0 ≤ a1) (A_a2 : Ax Z h0 a2 .int []) (ne_a1_a2 : a1 ≠ a2) : MF l "java/math/MutableBigInteger" "<init>" "([I)V" jdk_2101_method_3_code 2 none ws ⟨1, 0, 0, 12⟩ Z h0 #[(.ref a1), (.ref a2)] (fun v h L => v = none ∧ Fr n0 L ∧ Keep h0 h [a1] ∧ Fl3 Z h a1 ∧ Fl0 Z h a1 (.ref a2) ∧ Fl1 Z h a1 (.int 0) ∧ Fl2 Z h a1 (.int 0)) := by
 refine own_body (n0 := n0) (plainFor_of_name pn_27) (fun m => ef_34 m a1 a2) ?_
 intro p e s m below meth c s₁ hZ hx hby hml hown hlk hret hnm X0 e0 N0
 show Aq s₁ 0 #[vr a1, vr a2] []
 refine aN X0 hx hby d34_0 rfl rfl ?_
 obtain ⟨T101, X101, e101, st101⟩ := initO X0 hx hZ hown (tw107 hw) (tw8 hw) (tw9 hw) e0 (g := (mkF m 1 #[vr a1, vr a2] [(.ref a1)])) rfl (by rw [hml]; rfl) rfl (hb hby d34_1) (by decide) (W := 0) (by show 2 * 0 + _ ≤ _; exact Nat.le_of_eq rfl) (by decide)
 refine dS st101 ?_
 show Aq T101 4 #[vr a1, vr a2] []
 refine aN X101 hx hby d34_4 rfl rfl ?_
 refine iC X101 hx hby d34_5 (z := 0) rfl ?_
 obtain ⟨T102, h102, X102, e102, W102, st102⟩ := putF X101 hx hZ hown (host := "") (Or.inl (tw108 hw)) Via.refl e101 F_a1_offset E_a1 (Or.inl (tw109 hw)) (tw101 hw) (ty := .int) (by decide) rfl rfl (g := (mkF m 6 #[vr a1, vr a2] [(.int 0), (.ref a1)])) rfl rfl (hb hby d34_6)
 have f103 := F_a1_value.other W102 (Or.inr (sq0 hw))
 have f104 := F_a1_intLen.other W102 (Or.inr (sq1 hw))
 have f105 := F_a1_offset.same W102
 refine dS st102 ?_
 show Aq T102 9 #[vr a1, vr a2] []
 refine aN X102 hx hby d34_9 rfl rfl ?_
 refine aN X102 hx hby d34_10 rfl rfl ?_
 obtain ⟨T106, h106, X106, e106, W106, st106⟩ := putF X102 hx hZ hown (host := "") (Or.inl (tw127 hw)) Via.refl e102 f103 (E_a1.wr W102) (Or.inl (tw128 hw)) (tw101 hw) (ty := (.array .int)) (by decide) rfl rfl (g := (mkF m 11 #[vr a1, vr a2] [(.ref a2), (.ref a1)])) rfl rfl (hb hby d34_11)
 have f107 := f103.same W106
 have f108 := f104.other W106 (Or.inr (sq2 hw))
 have f109 := f105.other W106 (Or.inr (sq3 hw))
 refine dS st106 ?_
 show Aq T106 14 #[vr a1, vr a2] []
 refine aN X106 hx hby d34_14 rfl rfl ?_
 refine aN X106 hx hby d34_15 rfl rfl ?_
 refine dS (lenA X106 hx hZ e106 ((A_a2.other W102 ne_a1_a2.symm).other W106 ne_a1_a2.symm) (n := (0 : Int32)) rfl (g := (mkF m 16 #[vr a1, vr a2] [(.ref a2), (.ref a1)])) rfl rfl (hb hby d34_16)) ?_
 show Aq T106 17 #[vr a1, vr a2] [(.int 0), (.ref a1)]
 obtain ⟨T110, h110, X110, e110, W110, st110⟩ := putF X106 hx hZ hown (host := "") (Or.inl (tw112 hw)) Via.refl e106 f108 ((E_a1.wr W102).wr W106) (Or.inl (tw113 hw)) (tw101 hw) (ty := .int) (by decide) rfl rfl (g := (mkF m 17 #[vr a1, vr a2] [(.int 0), (.ref a1)])) rfl rfl (hb hby d34_17)
 have f111 := f107.other W110 (Or.inr (sq4 hw))
 have f112 := f108.same W110
 have f113 := f109.other W110 (Or.inr (sq5 hw))
 have f114 := ((A_a2.other W102 ne_a1_a2.symm).other W106 ne_a1_a2.symm).other W110 ne_a1_a2.symm
 have K110 := (((kr h0 [a1]).wr W102 (Or.inl me0)).wr W106 (Or.inl me0)).wr W110 (Or.inl me0)
 refine dS st110 ?_
 show Aq T110 20 #[vr a1, vr a2] []
 exact Done.void X110 hx hlk hret (hb hby d34_20) (by decide) (by decide) ⟨rfl, (Fr.snoc X110 (Fr.snoc X106 (Fr.snoc X102 N0 g_a1) g_a1) g_a1), (by rw [e110]; exact ⟨K110, (((E_a1.wr W102).wr W106).wr W110), f111, f112, f113⟩)⟩
theorem mia1 (l : Launch) (Z : State) (a0 : Array Value) (hw : HH a0 Z) (ws : List Jvm.Cond) (a1 a2 : Addr) (w0 : Int32) (h0 : Heap) (n0 : Nat) (Z0 : n0 ≤ h0.size) (E_a1 : Fl3 Z h0 a1) (F_a1_value : Fl0 Z h0 a1 .null) (F_a1_intLen : Fl1 Z h0 a1 (.int 0)) (F_a1_offset : Fl2 Z h0 a1 (.int 0)) (g_a1 : n0 ≤ a1) (A_a2 : Ax Z h0 a2 .int [(.int w0)]) (ne_a1_a2 : a1 ≠ a2) : MF l "java/math/MutableBigInteger" "<init>" "([I)V" jdk_2101_method_3_code 2 none ws ⟨1, 0, 0, 12⟩ Z h0 #[(.ref a1), (.ref a2)] (fun v h L => v = none ∧ Fr n0 L ∧ Keep h0 h [a1] ∧ Fl3 Z h a1 ∧ Fl0 Z h a1 (.ref a2) ∧ Fl1 Z h a1 (.int 1) ∧ Fl2 Z h a1 (.int 0)) := by
 refine own_body (n0 := n0) (plainFor_of_name pn_27) (fun m => ef_34 m a1 a2) ?_
 intro p e s m below meth c s₁ hZ hx hby hml hown hlk hret hnm X0 e0 N0
 show Aq s₁ 0 #[vr a1, vr a2] []
 refine aN X0 hx hby d34_0 rfl rfl ?_
 obtain ⟨T101, X101, e101, st101⟩ := initO X0 hx hZ hown (tw107 hw) (tw8 hw) (tw9 hw) e0 (g := (mkF m 1 #[vr a1, vr a2] [(.ref a1)])) rfl (by rw [hml]; rfl) rfl (hb hby d34_1) (by decide) (W := 0) (by show 2 * 0 + _ ≤ _; exact Nat.le_of_eq rfl) (by decide)
 refine dS st101 ?_
 show Aq T101 4 #[vr a1, vr a2] []
 refine aN X101 hx hby d34_4 rfl rfl ?_
 refine iC X101 hx hby d34_5 (z := 0) rfl ?_
 obtain ⟨T102, h102, X102, e102, W102, st102⟩ := putF X101 hx hZ hown (host := "") (Or.inl (tw108 hw)) Via.refl e101 F_a1_offset E_a1 (Or.inl (tw109 hw)) (tw101 hw) (ty := .int) (by decide) rfl rfl (g := (mkF m 6 #[vr a1, vr a2] [(.int 0), (.ref a1)])) rfl rfl (hb hby d34_6)
 have f103 := F_a1_value.other W102 (Or.inr (sq0 hw))
 have f104 := F_a1_intLen.other W102 (Or.inr (sq1 hw))
 have f105 := F_a1_offset.same W102
 refine dS st102 ?_
 show Aq T102 9 #[vr a1, vr a2] []
 refine aN X102 hx hby d34_9 rfl rfl ?_
 refine aN X102 hx hby d34_10 rfl rfl ?_
 obtain ⟨T106, h106, X106, e106, W106, st106⟩ := putF X102 hx hZ hown (host := "") (Or.inl (tw127 hw)) Via.refl e102 f103 (E_a1.wr W102) (Or.inl (tw128 hw)) (tw101 hw) (ty := (.array .int)) (by decide) rfl rfl (g := (mkF m 11 #[vr a1, vr a2] [(.ref a2), (.ref a1)])) rfl rfl (hb hby d34_11)
 have f107 := f103.same W106
 have f108 := f104.other W106 (Or.inr (sq2 hw))
 have f109 := f105.other W106 (Or.inr (sq3 hw))
 refine dS st106 ?_
 show Aq T106 14 #[vr a1, vr a2] []
 refine aN X106 hx hby d34_14 rfl rfl ?_
 refine aN X106 hx hby d34_15 rfl rfl ?_
 refine dS (lenA X106 hx hZ e106 ((A_a2.other W102 ne_a1_a2.symm).other W106 ne_a1_a2.symm) (n := (1 : Int32)) rfl (g := (mkF m 16 #[vr a1, vr a2] [(.ref a2), (.ref a1)])) rfl rfl (hb hby d34_16)) ?_
 show Aq T106 17 #[vr a1, vr a2] [(.int 1), (.ref a1)]
 obtain ⟨T110, h110, X110, e110, W110, st110⟩ := putF X106 hx hZ hown (host := "") (Or.inl (tw112 hw)) Via.refl e106 f108 ((E_a1.wr W102).wr W106) (Or.inl (tw113 hw)) (tw101 hw) (ty := .int) (by decide) rfl rfl (g := (mkF m 17 #[vr a1, vr a2] [(.int 1), (.ref a1)])) rfl rfl (hb hby d34_17)
 have f111 := f107.other W110 (Or.inr (sq4 hw))
 have f112 := f108.same W110
 have f113 := f109.other W110 (Or.inr (sq5 hw))
 have f114 := ((A_a2.other W102 ne_a1_a2.symm).other W106 ne_a1_a2.symm).other W110 ne_a1_a2.symm
 have K110 := (((kr h0 [a1]).wr W102 (Or.inl me0)).wr W106 (Or.inl me0)).wr W110 (Or.inl me0)
 refine dS st110 ?_
 show Aq T110 20 #[vr a1, vr a2] []
 exact Done.void X110 hx hlk hret (hb hby d34_20) (by decide) (by decide) ⟨rfl, (Fr.snoc X110 (Fr.snoc X106 (Fr.snoc X102 N0 g_a1) g_a1) g_a1), (by rw [e110]; exact ⟨K110, (((E_a1.wr W102).wr W106).wr W110), f111, f112, f113⟩)⟩
theorem mia2 (l : Launch) (Z : State) (a0 : Array Value) (hw : HH a0 Z) (ws : List Jvm.Cond) (a1 a2 : Addr) (w0 w1 : Int32) (h0 : Heap) (n0 : Nat) (Z0 : n0 ≤ h0.size) (E_a1 : Fl3 Z h0 a1) (F_a1_value : Fl0 Z h0 a1 .null) (F_a1_intLen : Fl1 Z h0 a1 (.int 0)) (F_a1_offset : Fl2 Z h0 a1 (.int 0)) (g_a1 : n0 ≤ a1) (A_a2 : Ax Z h0 a2 .int [(.int w0), (.int w1)]) (ne_a1_a2 : a1 ≠ a2) : MF l "java/math/MutableBigInteger" "<init>" "([I)V" jdk_2101_method_3_code 2 none ws ⟨1, 0, 0, 12⟩ Z h0 #[(.ref a1), (.ref a2)] (fun v h L => v = none ∧ Fr n0 L ∧ Keep h0 h [a1] ∧ Fl3 Z h a1 ∧ Fl0 Z h a1 (.ref a2) ∧ Fl1 Z h a1 (.int 2) ∧ Fl2 Z h a1 (.int 0)) := by
 refine own_body (n0 := n0) (plainFor_of_name pn_27) (fun m => ef_34 m a1 a2) ?_
 intro p e s m below meth c s₁ hZ hx hby hml hown hlk hret hnm X0 e0 N0
 show Aq s₁ 0 #[vr a1, vr a2] []
 refine aN X0 hx hby d34_0 rfl rfl ?_
 obtain ⟨T101, X101, e101, st101⟩ := initO X0 hx hZ hown (tw107 hw) (tw8 hw) (tw9 hw) e0 (g := (mkF m 1 #[vr a1, vr a2] [(.ref a1)])) rfl (by rw [hml]; rfl) rfl (hb hby d34_1) (by decide) (W := 0) (by show 2 * 0 + _ ≤ _; exact Nat.le_of_eq rfl) (by decide)
 refine dS st101 ?_
 show Aq T101 4 #[vr a1, vr a2] []
 refine aN X101 hx hby d34_4 rfl rfl ?_
 refine iC X101 hx hby d34_5 (z := 0) rfl ?_
 obtain ⟨T102, h102, X102, e102, W102, st102⟩ := putF X101 hx hZ hown (host := "") (Or.inl (tw108 hw)) Via.refl e101 F_a1_offset E_a1 (Or.inl (tw109 hw)) (tw101 hw) (ty := .int) (by decide) rfl rfl (g := (mkF m 6 #[vr a1, vr a2] [(.int 0), (.ref a1)])) rfl rfl (hb hby d34_6)
 have f103 := F_a1_value.other W102 (Or.inr (sq0 hw))
 have f104 := F_a1_intLen.other W102 (Or.inr (sq1 hw))
 have f105 := F_a1_offset.same W102
 refine dS st102 ?_
 show Aq T102 9 #[vr a1, vr a2] []
 refine aN X102 hx hby d34_9 rfl rfl ?_
 refine aN X102 hx hby d34_10 rfl rfl ?_
 obtain ⟨T106, h106, X106, e106, W106, st106⟩ := putF X102 hx hZ hown (host := "") (Or.inl (tw127 hw)) Via.refl e102 f103 (E_a1.wr W102) (Or.inl (tw128 hw)) (tw101 hw) (ty := (.array .int)) (by decide) rfl rfl (g := (mkF m 11 #[vr a1, vr a2] [(.ref a2), (.ref a1)])) rfl rfl (hb hby d34_11)
 have f107 := f103.same W106
 have f108 := f104.other W106 (Or.inr (sq2 hw))
 have f109 := f105.other W106 (Or.inr (sq3 hw))
 refine dS st106 ?_
 show Aq T106 14 #[vr a1, vr a2] []
 refine aN X106 hx hby d34_14 rfl rfl ?_
 refine aN X106 hx hby d34_15 rfl rfl ?_
 refine dS (lenA X106 hx hZ e106 ((A_a2.other W102 ne_a1_a2.symm).other W106 ne_a1_a2.symm) (n := (2 : Int32)) rfl (g := (mkF m 16 #[vr a1, vr a2] [(.ref a2), (.ref a1)])) rfl rfl (hb hby d34_16)) ?_
 show Aq T106 17 #[vr a1, vr a2] [(.int 2), (.ref a1)]
 obtain ⟨T110, h110, X110, e110, W110, st110⟩ := putF X106 hx hZ hown (host := "") (Or.inl (tw112 hw)) Via.refl e106 f108 ((E_a1.wr W102).wr W106) (Or.inl (tw113 hw)) (tw101 hw) (ty := .int) (by decide) rfl rfl (g := (mkF m 17 #[vr a1, vr a2] [(.int 2), (.ref a1)])) rfl rfl (hb hby d34_17)
 have f111 := f107.other W110 (Or.inr (sq4 hw))
 have f112 := f108.same W110
 have f113 := f109.other W110 (Or.inr (sq5 hw))
 have f114 := ((A_a2.other W102 ne_a1_a2.symm).other W106 ne_a1_a2.symm).other W110 ne_a1_a2.symm
 have K110 := (((kr h0 [a1]).wr W102 (Or.inl me0)).wr W106 (Or.inl me0)).wr W110 (Or.inl me0)
 refine dS st110 ?_
 show Aq T110 20 #[vr a1, vr a2] []
 exact Done.void X110 hx hlk hret (hb hby d34_20) (by decide) (by decide) ⟨rfl, (Fr.snoc X110 (Fr.snoc X106 (Fr.snoc X102 N0 g_a1) g_a1) g_a1), (by rw [e110]; exact ⟨K110, (((E_a1.wr W102).wr W106).wr W110), f111, f112, f113⟩)⟩
theorem d45_0 : dq cd12 0 (.aload_n 0) 1 := by decide +kernel
theorem d45_1 : dq cd12 1 (.getfield 21) 3 := by decide +kernel
theorem d45_4 : dq cd12 4 (.ifCond .ne 9) 3 := by decide +kernel
theorem d45_13 : dq cd12 13 (.aload_n 0) 1 := by decide +kernel
theorem d45_14 : dq cd12 14 (.getfield 11) 3 := by decide +kernel
theorem d45_17 : dq cd12 17 (.istore_n 1) 1 := by decide +kernel
theorem d45_18 : dq cd12 18 (.aload_n 0) 1 := by decide +kernel
theorem d45_19 : dq cd12 19 (.getfield 17) 3 := by decide +kernel
theorem d45_22 : dq cd12 22 (.iload_n 1) 1 := by decide +kernel
theorem d45_23 : dq cd12 23 .iaload 1 := by decide +kernel
theorem d45_24 : dq cd12 24 (.ifCond .eq 4) 3 := by decide +kernel
theorem d45_27 : dq cd12 27 .return_ 1 := by decide +kernel
theorem ef_45 (m : MethodId) (a1 : Addr) : entryFrame m #[(.ref a1)] 4 = mkF m 0 #[.val (.ref a1), .unset, .unset, .unset] [] := by first | (simp [entryFrame, mkF, argsToLocals, Value.category]; done) | rfl
theorem nor2 (l : Launch) (Z : State) (a0 : Array Value) (hw : HH a0 Z) (ws : List Jvm.Cond) (a1 va : Addr) (w0 w1 : Int32) (h0 : Heap) (n0 : Nat) (Z0 : n0 ≤ h0.size) (E_a1 : Fl3 Z h0 a1) (F_a1_value : Fl0 Z h0 a1 (.ref va)) (F_a1_intLen : Fl1 Z h0 a1 (.int 2)) (F_a1_offset : Fl2 Z h0 a1 (.int 0)) (A_va : Ax Z h0 va .int [(.int w0), (.int w1)]) (hw0 : ¬ w0 = (0 : Int32)) : MF l "java/math/MutableBigInteger" "normalize" "()V" jdk_2101_method_21_code 4 none ws ⟨0, 0, 0, 0⟩ Z h0 #[(.ref a1)] (fun v h L => v = none ∧ Fr n0 L ∧ Keep h0 h []) := by
 refine own_body (n0 := n0) (plainFor_of_name pn_27) (fun m => ef_45 m a1) ?_
 intro p e s m below meth c s₁ hZ hx hby hml hown hlk hret hnm X0 e0 N0
 show Aq s₁ 0 #[vr a1, vu, vu, vu] []
 refine aN X0 hx hby d45_0 rfl rfl ?_
 obtain ⟨T101, X101, e101, st101⟩ := gF X0 hx hZ hown (tw112 hw) e0 F_a1_intLen (g := (mkF m 1 #[vr a1, vu, vu, vu] [(.ref a1)])) rfl rfl (hb hby d45_1)
 refine dS st101 ?_
 show Aq T101 4 #[vr a1, vu, vu, vu] [(.int 2)]
 refine iY X101 hx hby d45_4 (pc' := 13) ((if0 _ _).trans (feq (by decide)).2) (H := ?_)
 refine aN X101 hx hby d45_13 rfl rfl ?_
 obtain ⟨T102, X102, e102, st102⟩ := gF X101 hx hZ hown (tw108 hw) e101 F_a1_offset (g := (mkF m 14 #[vr a1, vu, vu, vu] [(.ref a1)])) rfl rfl (hb hby d45_14)
 refine dS st102 ?_
 show Aq T102 17 #[vr a1, vu, vu, vu] [(.int 0)]
 refine sN X102 hx hby d45_17 (l' := #[vr a1, vi 0, vu, vu]) rfl ?_
 refine aN X102 hx hby d45_18 rfl rfl ?_
 obtain ⟨T103, X103, e103, st103⟩ := gF X102 hx hZ hown (tw127 hw) e102 F_a1_value (g := (mkF m 19 #[vr a1, vi 0, vu, vu] [(.ref a1)])) rfl rfl (hb hby d45_19)
 refine dS st103 ?_
 show Aq T103 22 #[vr a1, vi 0, vu, vu] [(.ref va)]
 refine iN X103 hx hby d45_22 rfl ?_
 refine dS (ldI X103 hx hZ e103 A_va (j := (0 : Int32)) (x := (.int w0)) (by decide) rfl (g := (mkF m 23 #[vr a1, vi 0, vu, vu] [(.int 0), (.ref va)])) rfl rfl (hb hby d45_23)) ?_
 show Aq T103 24 #[vr a1, vi 0, vu, vu] [(.int w0)]
 refine iF X103 hx hby d45_24 ((if0 _ _).trans (feq hw0).1) ?_
 exact Done.void X103 hx hlk hret (hb hby d45_27) (by decide) (by decide) ⟨rfl, N0, (by rw [e103]; exact (kr h0 []))⟩
theorem d36_0 : dq cd13 0 (.aload_n 1) 1 := by decide +kernel
theorem d36_1 : dq cd13 1 (.getfield 21) 3 := by decide +kernel
theorem d36_4 : dq cd13 4 (.istore_n 2) 1 := by decide +kernel
theorem d36_5 : dq cd13 5 (.aload_n 0) 1 := by decide +kernel
theorem d36_6 : dq cd13 6 (.getfield 21) 3 := by decide +kernel
theorem d36_9 : dq cd13 9 (.iload_n 2) 1 := by decide +kernel
theorem d36_10 : dq cd13 10 (.if_icmp .ge 5) 3 := by decide +kernel
theorem d36_15 : dq cd13 15 (.aload_n 0) 1 := by decide +kernel
theorem d36_16 : dq cd13 16 (.getfield 21) 3 := by decide +kernel
theorem d36_19 : dq cd13 19 (.iload_n 2) 1 := by decide +kernel
theorem d36_20 : dq cd13 20 (.if_icmp .le 5) 3 := by decide +kernel
theorem d36_23 : dq cd13 23 (.iconst 1) 1 := by decide +kernel
theorem d36_24 : dq cd13 24 .ireturn 1 := by decide +kernel
theorem ef_36 (m : MethodId) (a1 : Addr) (a2 : Addr) : entryFrame m #[(.ref a1), (.ref a2)] 8 = mkF m 0 #[.val (.ref a1), .val (.ref a2), .unset, .unset, .unset, .unset, .unset, .unset] [] := by first | (simp [entryFrame, mkF, argsToLocals, Value.category]; done) | rfl
theorem cmp21 (l : Launch) (Z : State) (a0 : Array Value) (hw : HH a0 Z) (ws : List Jvm.Cond) (a1 a2 : Addr) (h0 : Heap) (n0 : Nat) (Z0 : n0 ≤ h0.size) (F_a1_intLen : Fl1 Z h0 a1 (.int 2)) (F_a2_intLen : Fl1 Z h0 a2 (.int 1)) : MF l "java/math/MutableBigInteger" "compare" "(Ljava/math/MutableBigInteger;)I" jdk_2101_method_15_code 8 (some .int) ws ⟨0, 0, 0, 0⟩ Z h0 #[(.ref a1), (.ref a2)] (fun v h L => v = some (.int 1) ∧ Fr n0 L ∧ Keep h0 h []) := by
 refine own_body (n0 := n0) (plainFor_of_name pn_27) (fun m => ef_36 m a1 a2) ?_
 intro p e s m below meth c s₁ hZ hx hby hml hown hlk hret hnm X0 e0 N0
 show Aq s₁ 0 #[vr a1, vr a2, vu, vu, vu, vu, vu, vu] []
 refine aN X0 hx hby d36_0 rfl rfl ?_
 obtain ⟨T101, X101, e101, st101⟩ := gF X0 hx hZ hown (tw112 hw) e0 F_a2_intLen (g := (mkF m 1 #[vr a1, vr a2, vu, vu, vu, vu, vu, vu] [(.ref a2)])) rfl rfl (hb hby d36_1)
 refine dS st101 ?_
 show Aq T101 4 #[vr a1, vr a2, vu, vu, vu, vu, vu, vu] [(.int 1)]
 refine sN X101 hx hby d36_4 (l' := #[vr a1, vr a2, vi 1, vu, vu, vu, vu, vu]) rfl ?_
 refine aN X101 hx hby d36_5 rfl rfl ?_
 obtain ⟨T102, X102, e102, st102⟩ := gF X101 hx hZ hown (tw112 hw) e101 F_a1_intLen (g := (mkF m 6 #[vr a1, vr a2, vi 1, vu, vu, vu, vu, vu] [(.ref a1)])) rfl rfl (hb hby d36_6)
 refine dS st102 ?_
 show Aq T102 9 #[vr a1, vr a2, vi 1, vu, vu, vu, vu, vu] [(.int 2)]
 refine iN X102 hx hby d36_9 rfl ?_
 refine cY X102 hx hby d36_10 (pc' := 15) (flt (by decide)).2.1 (H := ?_)
 refine aN X102 hx hby d36_15 rfl rfl ?_
 obtain ⟨T103, X103, e103, st103⟩ := gF X102 hx hZ hown (tw112 hw) e102 F_a1_intLen (g := (mkF m 16 #[vr a1, vr a2, vi 1, vu, vu, vu, vu, vu] [(.ref a1)])) rfl rfl (hb hby d36_16)
 refine dS st103 ?_
 show Aq T103 19 #[vr a1, vr a2, vi 1, vu, vu, vu, vu, vu] [(.int 2)]
 refine iN X103 hx hby d36_19 rfl ?_
 refine cF X103 hx hby d36_20 (tlt (by decide)).2.2.2 ?_
 refine iC X103 hx hby d36_23 (z := 1) rfl ?_
 exact Done.int X103 hx hlk hret (hb hby d36_24) (by decide) (by decide) ⟨rfl, N0, (by rw [e103]; exact (kr h0 []))⟩
theorem own_cmpe {a : Int32} (h : ¬ a = (0 : Int32)) (hh : ¬ ((1 : Int32) + (-2147483648 : Int32)) < (a + (-2147483648 : Int32))) : a = (1 : Int32) := by
 refine Classical.byContradiction fun q => hh (own_gt (own_ge2 (own_une h) q))
theorem d36_25 : dq cd13 25 (.aload_n 1) 1 := by decide +kernel
theorem d36_26 : dq cd13 26 (.getfield 17) 3 := by decide +kernel
theorem d36_29 : dq cd13 29 (.astore_n 3) 1 := by decide +kernel
theorem d36_30 : dq cd13 30 (.aload_n 0) 1 := by decide +kernel
theorem d36_31 : dq cd13 31 (.getfield 11) 3 := by decide +kernel
theorem d36_34 : dq cd13 34 (.istore 4) 2 := by decide +kernel
theorem d36_36 : dq cd13 36 (.aload_n 1) 1 := by decide +kernel
theorem d36_37 : dq cd13 37 (.getfield 11) 3 := by decide +kernel
theorem d36_40 : dq cd13 40 (.istore 5) 2 := by decide +kernel
theorem d36_42 : dq cd13 42 (.iload 4) 2 := by decide +kernel
theorem d36_44 : dq cd13 44 (.aload_n 0) 1 := by decide +kernel
theorem d36_45 : dq cd13 45 (.getfield 21) 3 := by decide +kernel
theorem d36_48 : dq cd13 48 (.aload_n 0) 1 := by decide +kernel
theorem d36_49 : dq cd13 49 (.getfield 11) 3 := by decide +kernel
theorem d36_52 : dq cd13 52 .iadd 1 := by decide +kernel
theorem d36_53 : dq cd13 53 (.if_icmp .ge 51) 3 := by decide +kernel
theorem d36_56 : dq cd13 56 (.aload_n 0) 1 := by decide +kernel
theorem d36_57 : dq cd13 57 (.getfield 17) 3 := by decide +kernel
theorem d36_60 : dq cd13 60 (.iload 4) 2 := by decide +kernel
theorem d36_62 : dq cd13 62 .iaload 1 := by decide +kernel
theorem d36_63 : dq cd13 63 (.ldc 88) 2 := by decide +kernel
theorem d36_65 : dq cd13 65 .iadd 1 := by decide +kernel
theorem d36_66 : dq cd13 66 (.istore 6) 2 := by decide +kernel
theorem d36_68 : dq cd13 68 (.aload_n 3) 1 := by decide +kernel
theorem d36_69 : dq cd13 69 (.iload 5) 2 := by decide +kernel
theorem d36_71 : dq cd13 71 .iaload 1 := by decide +kernel
theorem d36_72 : dq cd13 72 (.ldc 88) 2 := by decide +kernel
theorem d36_74 : dq cd13 74 .iadd 1 := by decide +kernel
theorem d36_75 : dq cd13 75 (.istore 7) 2 := by decide +kernel
theorem d36_77 : dq cd13 77 (.iload 6) 2 := by decide +kernel
theorem d36_79 : dq cd13 79 (.iload 7) 2 := by decide +kernel
theorem d36_81 : dq cd13 81 (.if_icmp .ge 5) 3 := by decide +kernel
theorem d36_86 : dq cd13 86 (.iload 6) 2 := by decide +kernel
theorem d36_88 : dq cd13 88 (.iload 7) 2 := by decide +kernel
theorem d36_90 : dq cd13 90 (.if_icmp .le 5) 3 := by decide +kernel
theorem d36_93 : dq cd13 93 (.iconst 1) 1 := by decide +kernel
theorem d36_94 : dq cd13 94 .ireturn 1 := by decide +kernel
theorem d36_95 : dq cd13 95 (.iinc 4 1) 3 := by decide +kernel
theorem d36_98 : dq cd13 98 (.iinc 5 1) 3 := by decide +kernel
theorem d36_101 : dq cd13 101 (.goto (-59)) 3 := by decide +kernel
theorem d36_104 : dq cd13 104 (.iconst 0) 1 := by decide +kernel
theorem d36_105 : dq cd13 105 .ireturn 1 := by decide +kernel
theorem cmp11 (l : Launch) (Z : State) (a0 : Array Value) (hw : HH a0 Z) (ws : List Jvm.Cond) (a1 a2 va vb : Addr) (w0 : Int32) (h0 : Heap) (n0 : Nat) (Z0 : n0 ≤ h0.size) (E_a1 : Fl3 Z h0 a1) (F_a1_value : Fl0 Z h0 a1 (.ref va)) (F_a1_intLen : Fl1 Z h0 a1 (.int 1)) (F_a1_offset : Fl2 Z h0 a1 (.int 0)) (A_va : Ax Z h0 va .int [(.int w0)]) (E_a2 : Fl3 Z h0 a2) (F_a2_value : Fl0 Z h0 a2 (.ref vb)) (F_a2_intLen : Fl1 Z h0 a2 (.int 1)) (F_a2_offset : Fl2 Z h0 a2 (.int 0)) (A_vb : Ax Z h0 vb .int [(.int 1)]) (hw0 : ¬ w0 = (0 : Int32)) : MF l "java/math/MutableBigInteger" "compare" "(Ljava/math/MutableBigInteger;)I" jdk_2101_method_15_code 8 (some .int) ws ⟨0, 0, 0, 0⟩ Z h0 #[(.ref a1), (.ref a2)] (fun v h L => ∃ (r0 : Int32), v = some (.int r0) ∧ Fr n0 L ∧ Keep h0 h [] ∧ ((w0 = (1 : Int32) ∧ r0 = (0 : Int32)) ∨ (¬ w0 = (1 : Int32) ∧ r0 = (1 : Int32)))) := by
 refine own_body (n0 := n0) (plainFor_of_name pn_27) (fun m => ef_36 m a1 a2) ?_
 intro p e s m below meth c s₁ hZ hx hby hml hown hlk hret hnm X0 e0 N0
 show Aq s₁ 0 #[vr a1, vr a2, vu, vu, vu, vu, vu, vu] []
 refine aN X0 hx hby d36_0 rfl rfl ?_
 obtain ⟨T101, X101, e101, st101⟩ := gF X0 hx hZ hown (tw112 hw) e0 F_a2_intLen (g := (mkF m 1 #[vr a1, vr a2, vu, vu, vu, vu, vu, vu] [(.ref a2)])) rfl rfl (hb hby d36_1)
 refine dS st101 ?_
 show Aq T101 4 #[vr a1, vr a2, vu, vu, vu, vu, vu, vu] [(.int 1)]
 refine sN X101 hx hby d36_4 (l' := #[vr a1, vr a2, vi 1, vu, vu, vu, vu, vu]) rfl ?_
 refine aN X101 hx hby d36_5 rfl rfl ?_
 obtain ⟨T102, X102, e102, st102⟩ := gF X101 hx hZ hown (tw112 hw) e101 F_a1_intLen (g := (mkF m 6 #[vr a1, vr a2, vi 1, vu, vu, vu, vu, vu] [(.ref a1)])) rfl rfl (hb hby d36_6)
 refine dS st102 ?_
 show Aq T102 9 #[vr a1, vr a2, vi 1, vu, vu, vu, vu, vu] [(.int 1)]
 refine iN X102 hx hby d36_9 rfl ?_
 refine cY X102 hx hby d36_10 (pc' := 15) (flt (by decide)).2.1 (H := ?_)
 refine aN X102 hx hby d36_15 rfl rfl ?_
 obtain ⟨T103, X103, e103, st103⟩ := gF X102 hx hZ hown (tw112 hw) e102 F_a1_intLen (g := (mkF m 16 #[vr a1, vr a2, vi 1, vu, vu, vu, vu, vu] [(.ref a1)])) rfl rfl (hb hby d36_16)
 refine dS st103 ?_
 show Aq T103 19 #[vr a1, vr a2, vi 1, vu, vu, vu, vu, vu] [(.int 1)]
 refine iN X103 hx hby d36_19 rfl ?_
 refine cY X103 hx hby d36_20 (pc' := 25) (flt (by decide)).2.2.2 (H := ?_)
 refine aN X103 hx hby d36_25 rfl rfl ?_
 obtain ⟨T104, X104, e104, st104⟩ := gF X103 hx hZ hown (tw127 hw) e103 F_a2_value (g := (mkF m 26 #[vr a1, vr a2, vi 1, vu, vu, vu, vu, vu] [(.ref a2)])) rfl rfl (hb hby d36_26)
 refine dS st104 ?_
 show Aq T104 29 #[vr a1, vr a2, vi 1, vu, vu, vu, vu, vu] [(.ref vb)]
 refine aT X104 hx hby d36_29 rfl (l' := #[vr a1, vr a2, vi 1, vr vb, vu, vu, vu, vu]) rfl ?_
 refine aN X104 hx hby d36_30 rfl rfl ?_
 obtain ⟨T105, X105, e105, st105⟩ := gF X104 hx hZ hown (tw108 hw) e104 F_a1_offset (g := (mkF m 31 #[vr a1, vr a2, vi 1, vr vb, vu, vu, vu, vu] [(.ref a1)])) rfl rfl (hb hby d36_31)
 refine dS st105 ?_
 show Aq T105 34 #[vr a1, vr a2, vi 1, vr vb, vu, vu, vu, vu] [(.int 0)]
 refine sL X105 hx hby d36_34 (l' := #[vr a1, vr a2, vi 1, vr vb, vi 0, vu, vu, vu]) rfl ?_
 refine aN X105 hx hby d36_36 rfl rfl ?_
 obtain ⟨T106, X106, e106, st106⟩ := gF X105 hx hZ hown (tw108 hw) e105 F_a2_offset (g := (mkF m 37 #[vr a1, vr a2, vi 1, vr vb, vi 0, vu, vu, vu] [(.ref a2)])) rfl rfl (hb hby d36_37)
 refine dS st106 ?_
 show Aq T106 40 #[vr a1, vr a2, vi 1, vr vb, vi 0, vu, vu, vu] [(.int 0)]
 refine sL X106 hx hby d36_40 (l' := #[vr a1, vr a2, vi 1, vr vb, vi 0, vi 0, vu, vu]) rfl ?_
 refine iL X106 hx hby d36_42 rfl ?_
 refine aN X106 hx hby d36_44 rfl rfl ?_
 obtain ⟨T107, X107, e107, st107⟩ := gF X106 hx hZ hown (tw112 hw) e106 F_a1_intLen (g := (mkF m 45 #[vr a1, vr a2, vi 1, vr vb, vi 0, vi 0, vu, vu] [(.ref a1), (.int 0)])) rfl rfl (hb hby d36_45)
 refine dS st107 ?_
 show Aq T107 48 #[vr a1, vr a2, vi 1, vr vb, vi 0, vi 0, vu, vu] [(.int 1), (.int 0)]
 refine aN X107 hx hby d36_48 rfl rfl ?_
 obtain ⟨T108, X108, e108, st108⟩ := gF X107 hx hZ hown (tw108 hw) e107 F_a1_offset (g := (mkF m 49 #[vr a1, vr a2, vi 1, vr vb, vi 0, vi 0, vu, vu] [(.ref a1), (.int 1), (.int 0)])) rfl rfl (hb hby d36_49)
 refine dS st108 ?_
 show Aq T108 52 #[vr a1, vr a2, vi 1, vr vb, vi 0, vi 0, vu, vu] [(.int 0), (.int 1), (.int 0)]
 refine iA X108 hx hby d36_52 ?_
 rw [show ((1 : Int32) + (0 : Int32)) = (1 : Int32) from by decide]
 refine cF X108 hx hby d36_53 (tlt (by decide)).2.1 ?_
 refine aN X108 hx hby d36_56 rfl rfl ?_
 obtain ⟨T109, X109, e109, st109⟩ := gF X108 hx hZ hown (tw127 hw) e108 F_a1_value (g := (mkF m 57 #[vr a1, vr a2, vi 1, vr vb, vi 0, vi 0, vu, vu] [(.ref a1)])) rfl rfl (hb hby d36_57)
 refine dS st109 ?_
 show Aq T109 60 #[vr a1, vr a2, vi 1, vr vb, vi 0, vi 0, vu, vu] [(.ref va)]
 refine iL X109 hx hby d36_60 rfl ?_
 refine dS (ldI X109 hx hZ e109 A_va (j := (0 : Int32)) (x := (.int w0)) (by decide) rfl (g := (mkF m 62 #[vr a1, vr a2, vi 1, vr vb, vi 0, vi 0, vu, vu] [(.int 0), (.ref va)])) rfl rfl (hb hby d36_62)) ?_
 show Aq T109 63 #[vr a1, vr a2, vi 1, vr vb, vi 0, vi 0, vu, vu] [(.int w0)]
 refine dS (X109.ldcInt hx hown (mvT hZ (tw227 hw)) (g := (mkF m 63 #[vr a1, vr a2, vi 1, vr vb, vi 0, vi 0, vu, vu] [(.int w0)])) rfl (hb hby d36_63)) ?_
 show Aq T109 65 #[vr a1, vr a2, vi 1, vr vb, vi 0, vi 0, vu, vu] [(.int (-2147483648 : Int32)), (.int w0)]
 refine iA X109 hx hby d36_65 ?_
 refine sL X109 hx hby d36_66 (l' := #[vr a1, vr a2, vi 1, vr vb, vi 0, vi 0, vi (w0 + (-2147483648 : Int32)), vu]) rfl ?_
 refine aN X109 hx hby d36_68 rfl rfl ?_
 refine iL X109 hx hby d36_69 rfl ?_
 refine dS (ldI X109 hx hZ e109 A_vb (j := (0 : Int32)) (x := (.int 1)) (by decide) rfl (g := (mkF m 71 #[vr a1, vr a2, vi 1, vr vb, vi 0, vi 0, vi (w0 + (-2147483648 : Int32)), vu] [(.int 0), (.ref vb)])) rfl rfl (hb hby d36_71)) ?_
 show Aq T109 72 #[vr a1, vr a2, vi 1, vr vb, vi 0, vi 0, vi (w0 + (-2147483648 : Int32)), vu] [(.int 1)]
 refine dS (X109.ldcInt hx hown (mvT hZ (tw227 hw)) (g := (mkF m 72 #[vr a1, vr a2, vi 1, vr vb, vi 0, vi 0, vi (w0 + (-2147483648 : Int32)), vu] [(.int 1)])) rfl (hb hby d36_72)) ?_
 show Aq T109 74 #[vr a1, vr a2, vi 1, vr vb, vi 0, vi 0, vi (w0 + (-2147483648 : Int32)), vu] [(.int (-2147483648 : Int32)), (.int 1)]
 refine iA X109 hx hby d36_74 ?_
 rw [show ((1 : Int32) + (-2147483648 : Int32)) = (-2147483647 : Int32) from by decide]
 refine sL X109 hx hby d36_75 (l' := #[vr a1, vr a2, vi 1, vr vb, vi 0, vi 0, vi (w0 + (-2147483648 : Int32)), vi (-2147483647 : Int32)]) rfl ?_
 refine iL X109 hx hby d36_77 rfl ?_
 refine iL X109 hx hby d36_79 rfl ?_
 refine cY X109 hx hby d36_81 (pc' := 86) (flt (own_cmp1 hw0)).2.1 (H := ?_)
 refine iL X109 hx hby d36_86 rfl ?_
 refine iL X109 hx hby d36_88 rfl ?_
 by_cases c1 : (-2147483647 : Int32) < (w0 + (-2147483648 : Int32))
 ·refine cF X109 hx hby d36_90 (tlt c1).2.2.2 ?_
  refine iC X109 hx hby d36_93 (z := 1) rfl ?_
  exact Done.int X109 hx hlk hret (hb hby d36_94) (by decide) (by decide) ⟨(1 : Int32), rfl, N0, (by rw [e109]; exact ⟨(kr h0 []), (Or.inr ⟨(fun q => by rw [q] at c1; exact absurd c1 (by decide)), rfl⟩)⟩)⟩
 ·refine cY X109 hx hby d36_90 (pc' := 95) (flt c1).2.2.2 (H := ?_)
  refine dS (fun t k => XS.iinc X109.here hx rfl (hb hby d36_95) rfl (l' := #[vr a1, vr a2, vi 1, vr vb, vi ((0 : Int32) + (1 : Int32)), vi 0, vi (w0 + (-2147483648 : Int32)), vi (-2147483647 : Int32)]) rfl k) ?_
  show Aq T109 98 #[vr a1, vr a2, vi 1, vr vb, vi ((0 : Int32) + (1 : Int32)), vi 0, vi (w0 + (-2147483648 : Int32)), vi (-2147483647 : Int32)] []
  rw [show ((0 : Int32) + (1 : Int32)) = (1 : Int32) from by decide]
  show Aq T109 98 #[vr a1, vr a2, vi 1, vr vb, vi 1, vi 0, vi (w0 + (-2147483648 : Int32)), vi (-2147483647 : Int32)] []
  refine dS (fun t k => XS.iinc X109.here hx rfl (hb hby d36_98) rfl (l' := #[vr a1, vr a2, vi 1, vr vb, vi 1, vi ((0 : Int32) + (1 : Int32)), vi (w0 + (-2147483648 : Int32)), vi (-2147483647 : Int32)]) rfl k) ?_
  show Aq T109 101 #[vr a1, vr a2, vi 1, vr vb, vi 1, vi ((0 : Int32) + (1 : Int32)), vi (w0 + (-2147483648 : Int32)), vi (-2147483647 : Int32)] []
  rw [show ((0 : Int32) + (1 : Int32)) = (1 : Int32) from by decide]
  show Aq T109 101 #[vr a1, vr a2, vi 1, vr vb, vi 1, vi 1, vi (w0 + (-2147483648 : Int32)), vi (-2147483647 : Int32)] []
  refine gO X109 hx hby d36_101 (pc' := 42) (H := ?_)
  refine iL X109 hx hby d36_42 rfl ?_
  refine aN X109 hx hby d36_44 rfl rfl ?_
  obtain ⟨T110, X110, e110, st110⟩ := gF X109 hx hZ hown (tw112 hw) e109 F_a1_intLen (g := (mkF m 45 #[vr a1, vr a2, vi 1, vr vb, vi 1, vi 1, vi (w0 + (-2147483648 : Int32)), vi (-2147483647 : Int32)] [(.ref a1), (.int 1)])) rfl rfl (hb hby d36_45)
  refine dS st110 ?_
  show Aq T110 48 #[vr a1, vr a2, vi 1, vr vb, vi 1, vi 1, vi (w0 + (-2147483648 : Int32)), vi (-2147483647 : Int32)] [(.int 1), (.int 1)]
  refine aN X110 hx hby d36_48 rfl rfl ?_
  obtain ⟨T111, X111, e111, st111⟩ := gF X110 hx hZ hown (tw108 hw) e110 F_a1_offset (g := (mkF m 49 #[vr a1, vr a2, vi 1, vr vb, vi 1, vi 1, vi (w0 + (-2147483648 : Int32)), vi (-2147483647 : Int32)] [(.ref a1), (.int 1), (.int 1)])) rfl rfl (hb hby d36_49)
  refine dS st111 ?_
  show Aq T111 52 #[vr a1, vr a2, vi 1, vr vb, vi 1, vi 1, vi (w0 + (-2147483648 : Int32)), vi (-2147483647 : Int32)] [(.int 0), (.int 1), (.int 1)]
  refine iA X111 hx hby d36_52 ?_
  rw [show ((1 : Int32) + (0 : Int32)) = (1 : Int32) from by decide]
  refine cY X111 hx hby d36_53 (pc' := 104) (flt (by decide)).2.1 (H := ?_)
  refine iC X111 hx hby d36_104 (z := 0) rfl ?_
  exact Done.int X111 hx hlk hret (hb hby d36_105) (by decide) (by decide) ⟨(0 : Int32), rfl, N0, (by rw [e111]; exact ⟨(kr h0 []), (Or.inl ⟨own_cmpe hw0 c1, rfl⟩)⟩)⟩
theorem d37_0 : dq cd14 0 (.aload_n 0) 1 := by decide +kernel
theorem d37_1 : dq cd14 1 (.aload_n 0) 1 := by decide +kernel
theorem d37_2 : dq cd14 2 (.iconst 0) 1 := by decide +kernel
theorem d37_3 : dq cd14 3 .dup_x1 1 := by decide +kernel
theorem d37_4 : dq cd14 4 (.putfield 21) 3 := by decide +kernel
theorem d37_7 : dq cd14 7 (.putfield 11) 3 := by decide +kernel
theorem d37_10 : dq cd14 10 (.iconst 0) 1 := by decide +kernel
theorem d37_11 : dq cd14 11 (.istore_n 1) 1 := by decide +kernel
theorem d37_12 : dq cd14 12 (.aload_n 0) 1 := by decide +kernel
theorem d37_13 : dq cd14 13 (.getfield 17) 3 := by decide +kernel
theorem d37_16 : dq cd14 16 .arraylength 1 := by decide +kernel
theorem d37_17 : dq cd14 17 (.istore_n 2) 1 := by decide +kernel
theorem d37_18 : dq cd14 18 (.iload_n 1) 1 := by decide +kernel
theorem d37_19 : dq cd14 19 (.iload_n 2) 1 := by decide +kernel
theorem d37_20 : dq cd14 20 (.if_icmp .ge 16) 3 := by decide +kernel
theorem d37_23 : dq cd14 23 (.aload_n 0) 1 := by decide +kernel
theorem d37_24 : dq cd14 24 (.getfield 17) 3 := by decide +kernel
theorem d37_27 : dq cd14 27 (.iload_n 1) 1 := by decide +kernel
theorem d37_28 : dq cd14 28 (.iconst 0) 1 := by decide +kernel
theorem d37_29 : dq cd14 29 .iastore 1 := by decide +kernel
theorem d37_30 : dq cd14 30 (.iinc 1 1) 3 := by decide +kernel
theorem d37_33 : dq cd14 33 (.goto (-15)) 3 := by decide +kernel
theorem d37_36 : dq cd14 36 .return_ 1 := by decide +kernel
theorem ef_37 (m : MethodId) (a1 : Addr) : entryFrame m #[(.ref a1)] 3 = mkF m 0 #[.val (.ref a1), .unset, .unset] [] := by first | (simp [entryFrame, mkF, argsToLocals, Value.category]; done) | rfl
theorem clr (l : Launch) (Z : State) (a0 : Array Value) (hw : HH a0 Z) (ws : List Jvm.Cond) (a1 va : Addr) (w0 nI : Int32) (h0 : Heap) (n0 : Nat) (Z0 : n0 ≤ h0.size) (E_a1 : Fl3 Z h0 a1) (F_a1_value : Fl0 Z h0 a1 (.ref va)) (F_a1_intLen : Fl1 Z h0 a1 (.int nI)) (F_a1_offset : Fl2 Z h0 a1 (.int 0)) (A_va : Ax Z h0 va .int [(.int w0)]) (g_a1 : n0 ≤ a1) (g_va : n0 ≤ va) (ne_a1_va : a1 ≠ va) : MF l "java/math/MutableBigInteger" "clear" "()V" jdk_2101_method_13_code 3 none ws ⟨0, 0, 0, 0⟩ Z h0 #[(.ref a1)] (fun v h L => v = none ∧ Fr n0 L ∧ Keep h0 h [a1, va] ∧ Fl3 Z h a1 ∧ Fl0 Z h a1 (.ref va) ∧ Fl1 Z h a1 (.int 0) ∧ Fl2 Z h a1 (.int 0) ∧ Ax Z h va .int [(.int 0)]) := by
 refine own_body (n0 := n0) (plainFor_of_name pn_27) (fun m => ef_37 m a1) ?_
 intro p e s m below meth c s₁ hZ hx hby hml hown hlk hret hnm X0 e0 N0
 show Aq s₁ 0 #[vr a1, vu, vu] []
 refine aN X0 hx hby d37_0 rfl rfl ?_
 refine aN X0 hx hby d37_1 rfl rfl ?_
 refine iC X0 hx hby d37_2 (z := 0) rfl ?_
 refine dS (fun t k => XS.dupX1 X0.here hx rfl (hb hby d37_3) rfl rfl rfl k) ?_
 show Aq s₁ 4 #[vr a1, vu, vu] [(.int 0), (.ref a1), (.int 0), (.ref a1)]
 obtain ⟨T101, h101, X101, e101, W101, st101⟩ := putF X0 hx hZ hown (host := "") (Or.inl (tw112 hw)) Via.refl e0 F_a1_intLen E_a1 (Or.inl (tw113 hw)) (tw101 hw) (ty := .int) (by decide) rfl rfl (g := (mkF m 4 #[vr a1, vu, vu] [(.int 0), (.ref a1), (.int 0), (.ref a1)])) rfl rfl (hb hby d37_4)
 have f102 := F_a1_value.other W101 (Or.inr (sq4 hw))
 have f103 := F_a1_intLen.same W101
 have f104 := F_a1_offset.other W101 (Or.inr (sq5 hw))
 refine dS st101 ?_
 show Aq T101 7 #[vr a1, vu, vu] [(.int 0), (.ref a1)]
 obtain ⟨T105, h105, X105, e105, W105, st105⟩ := putF X101 hx hZ hown (host := "") (Or.inl (tw108 hw)) Via.refl e101 f104 (E_a1.wr W101) (Or.inl (tw109 hw)) (tw101 hw) (ty := .int) (by decide) rfl rfl (g := (mkF m 7 #[vr a1, vu, vu] [(.int 0), (.ref a1)])) rfl rfl (hb hby d37_7)
 have f106 := f102.other W105 (Or.inr (sq0 hw))
 have f107 := f103.other W105 (Or.inr (sq1 hw))
 have f108 := f104.same W105
 refine dS st105 ?_
 show Aq T105 10 #[vr a1, vu, vu] []
 refine iC X105 hx hby d37_10 (z := 0) rfl ?_
 refine sN X105 hx hby d37_11 (l' := #[vr a1, vi 0, vu]) rfl ?_
 refine aN X105 hx hby d37_12 rfl rfl ?_
 obtain ⟨T109, X109, e109, st109⟩ := gF X105 hx hZ hown (tw127 hw) e105 f106 (g := (mkF m 13 #[vr a1, vi 0, vu] [(.ref a1)])) rfl rfl (hb hby d37_13)
 refine dS st109 ?_
 show Aq T109 16 #[vr a1, vi 0, vu] [(.ref va)]
 refine dS (lenA X109 hx hZ e109 ((A_va.other W101 ne_a1_va.symm).other W105 ne_a1_va.symm) (n := (1 : Int32)) rfl (g := (mkF m 16 #[vr a1, vi 0, vu] [(.ref va)])) rfl rfl (hb hby d37_16)) ?_
 show Aq T109 17 #[vr a1, vi 0, vu] [(.int 1)]
 refine sN X109 hx hby d37_17 (l' := #[vr a1, vi 0, vi 1]) rfl ?_
 refine iN X109 hx hby d37_18 rfl ?_
 refine iN X109 hx hby d37_19 rfl ?_
 refine cF X109 hx hby d37_20 (tlt (by decide)).2.1 ?_
 refine aN X109 hx hby d37_23 rfl rfl ?_
 obtain ⟨T110, X110, e110, st110⟩ := gF X109 hx hZ hown (tw127 hw) e109 f106 (g := (mkF m 24 #[vr a1, vi 0, vi 1] [(.ref a1)])) rfl rfl (hb hby d37_24)
 refine dS st110 ?_
 show Aq T110 27 #[vr a1, vi 0, vi 1] [(.ref va)]
 refine iN X110 hx hby d37_27 rfl ?_
 refine iC X110 hx hby d37_28 (z := 0) rfl ?_
 obtain ⟨T111, h111, X111, e111, W111, A111, st111⟩ := stoI X110 hx hZ e110 ((A_va.other W101 ne_a1_va.symm).other W105 ne_a1_va.symm) (j := (0 : Int32)) (by decide) (i := 0) (by decide) (Nat.le_of_ble_eq_true rfl) (g := (mkF m 29 #[vr a1, vi 0, vi 1] [(.int 0), (.int 0), (.ref va)])) rfl rfl (hb hby d37_29)
 have f112 : Ax Z h111 va .int [(.int 0)] := A111
 have K111 := (((kr h0 [a1, va]).wr W101 (Or.inl me0)).wr W105 (Or.inl me0)).wr W111 (Or.inl me1)
 refine dS st111 ?_
 show Aq T111 30 #[vr a1, vi 0, vi 1] []
 refine dS (fun t k => XS.iinc X111.here hx rfl (hb hby d37_30) rfl (l' := #[vr a1, vi ((0 : Int32) + (1 : Int32)), vi 1]) rfl k) ?_
 show Aq T111 33 #[vr a1, vi ((0 : Int32) + (1 : Int32)), vi 1] []
 rw [show ((0 : Int32) + (1 : Int32)) = (1 : Int32) from by decide]
 show Aq T111 33 #[vr a1, vi 1, vi 1] []
 refine gO X111 hx hby d37_33 (pc' := 18) (H := ?_)
 refine iN X111 hx hby d37_18 rfl ?_
 refine iN X111 hx hby d37_19 rfl ?_
 refine cY X111 hx hby d37_20 (pc' := 36) (flt (by decide)).2.1 (H := ?_)
 exact Done.void X111 hx hlk hret (hb hby d37_36) (by decide) (by decide) ⟨rfl, (Fr.snoc X111 (Fr.snoc X105 (Fr.snoc X101 N0 g_a1) g_a1) g_va), (by rw [e111]; exact ⟨K111, (((E_a1.wr W101).wr W105).wr W111), (f106.other W111 (Or.inl ne_a1_va)), (f107.other W111 (Or.inl ne_a1_va)), (f108.other W111 (Or.inl ne_a1_va)), f112⟩)⟩
theorem d29_0 : dq cd15 0 (.aload_n 0) 1 := by decide +kernel
theorem d29_1 : dq cd15 1 (.getfield 11) 3 := by decide +kernel
theorem d29_4 : dq cd15 4 (.ifCond .gt 15) 3 := by decide +kernel
theorem d29_7 : dq cd15 7 (.aload_n 0) 1 := by decide +kernel
theorem d29_8 : dq cd15 8 (.getfield 17) 3 := by decide +kernel
theorem d29_11 : dq cd15 11 .arraylength 1 := by decide +kernel
theorem d29_12 : dq cd15 12 (.aload_n 0) 1 := by decide +kernel
theorem d29_13 : dq cd15 13 (.getfield 21) 3 := by decide +kernel
theorem d29_16 : dq cd15 16 (.if_icmp .eq 48) 3 := by decide +kernel
theorem d29_64 : dq cd15 64 (.aload_n 0) 1 := by decide +kernel
theorem d29_65 : dq cd15 65 (.getfield 17) 3 := by decide +kernel
theorem d29_68 : dq cd15 68 .areturn 1 := by decide +kernel
theorem ef_29 (m : MethodId) (a1 : Addr) : entryFrame m #[(.ref a1)] 2 = mkF m 0 #[.val (.ref a1), .unset] [] := by first | (simp [entryFrame, mkF, argsToLocals, Value.category]; done) | rfl
theorem gma1 (l : Launch) (Z : State) (a0 : Array Value) (hw : HH a0 Z) (ws : List Jvm.Cond) (a1 va : Addr) (w0 : Int32) (h0 : Heap) (n0 : Nat) (Z0 : n0 ≤ h0.size) (E_a1 : Fl3 Z h0 a1) (F_a1_value : Fl0 Z h0 a1 (.ref va)) (F_a1_intLen : Fl1 Z h0 a1 (.int 1)) (F_a1_offset : Fl2 Z h0 a1 (.int 0)) (A_va : Ax Z h0 va .int [(.int w0)]) : MF l "java/math/MutableBigInteger" "getMagnitudeArray" "()[I" jdk_2101_method_7_code 2 (some (.array .int)) ws ⟨0, 0, 0, 0⟩ Z h0 #[(.ref a1)] (fun v h L => v = some (.ref va) ∧ Fr n0 L ∧ Keep h0 h []) := by
 refine own_body (n0 := n0) (plainFor_of_name pn_27) (fun m => ef_29 m a1) ?_
 intro p e s m below meth c s₁ hZ hx hby hml hown hlk hret hnm X0 e0 N0
 show Aq s₁ 0 #[vr a1, vu] []
 refine aN X0 hx hby d29_0 rfl rfl ?_
 obtain ⟨T101, X101, e101, st101⟩ := gF X0 hx hZ hown (tw108 hw) e0 F_a1_offset (g := (mkF m 1 #[vr a1, vu] [(.ref a1)])) rfl rfl (hb hby d29_1)
 refine dS st101 ?_
 show Aq T101 4 #[vr a1, vu] [(.int 0)]
 refine iF X101 hx hby d29_4 ((if0 _ _).trans (flt (by decide)).2.2.1) ?_
 refine aN X101 hx hby d29_7 rfl rfl ?_
 obtain ⟨T102, X102, e102, st102⟩ := gF X101 hx hZ hown (tw127 hw) e101 F_a1_value (g := (mkF m 8 #[vr a1, vu] [(.ref a1)])) rfl rfl (hb hby d29_8)
 refine dS st102 ?_
 show Aq T102 11 #[vr a1, vu] [(.ref va)]
 refine dS (lenA X102 hx hZ e102 A_va (n := (1 : Int32)) rfl (g := (mkF m 11 #[vr a1, vu] [(.ref va)])) rfl rfl (hb hby d29_11)) ?_
 show Aq T102 12 #[vr a1, vu] [(.int 1)]
 refine aN X102 hx hby d29_12 rfl rfl ?_
 obtain ⟨T103, X103, e103, st103⟩ := gF X102 hx hZ hown (tw112 hw) e102 F_a1_intLen (g := (mkF m 13 #[vr a1, vu] [(.ref a1), (.int 1)])) rfl rfl (hb hby d29_13)
 refine dS st103 ?_
 show Aq T103 16 #[vr a1, vu] [(.int 1), (.int 1)]
 refine cY X103 hx hby d29_16 (pc' := 64) (teq (by decide)).1 (H := ?_)
 refine aN X103 hx hby d29_64 rfl rfl ?_
 obtain ⟨T104, X104, e104, st104⟩ := gF X103 hx hZ hown (tw127 hw) e103 F_a1_value (g := (mkF m 65 #[vr a1, vu] [(.ref a1)])) rfl rfl (hb hby d29_65)
 refine dS st104 ?_
 show Aq T104 68 #[vr a1, vu] [(.ref va)]
 exact Done.ref X104 hx hlk hret rfl rfl rfl (hb hby d29_68) (by decide) (by decide) ⟨rfl, N0, (by rw [e104]; exact (kr h0 []))⟩
theorem gma2 (l : Launch) (Z : State) (a0 : Array Value) (hw : HH a0 Z) (ws : List Jvm.Cond) (a1 va : Addr) (w0 w1 : Int32) (h0 : Heap) (n0 : Nat) (Z0 : n0 ≤ h0.size) (E_a1 : Fl3 Z h0 a1) (F_a1_value : Fl0 Z h0 a1 (.ref va)) (F_a1_intLen : Fl1 Z h0 a1 (.int 2)) (F_a1_offset : Fl2 Z h0 a1 (.int 0)) (A_va : Ax Z h0 va .int [(.int w0), (.int w1)]) : MF l "java/math/MutableBigInteger" "getMagnitudeArray" "()[I" jdk_2101_method_7_code 2 (some (.array .int)) ws ⟨0, 0, 0, 0⟩ Z h0 #[(.ref a1)] (fun v h L => v = some (.ref va) ∧ Fr n0 L ∧ Keep h0 h []) := by
 refine own_body (n0 := n0) (plainFor_of_name pn_27) (fun m => ef_29 m a1) ?_
 intro p e s m below meth c s₁ hZ hx hby hml hown hlk hret hnm X0 e0 N0
 show Aq s₁ 0 #[vr a1, vu] []
 refine aN X0 hx hby d29_0 rfl rfl ?_
 obtain ⟨T101, X101, e101, st101⟩ := gF X0 hx hZ hown (tw108 hw) e0 F_a1_offset (g := (mkF m 1 #[vr a1, vu] [(.ref a1)])) rfl rfl (hb hby d29_1)
 refine dS st101 ?_
 show Aq T101 4 #[vr a1, vu] [(.int 0)]
 refine iF X101 hx hby d29_4 ((if0 _ _).trans (flt (by decide)).2.2.1) ?_
 refine aN X101 hx hby d29_7 rfl rfl ?_
 obtain ⟨T102, X102, e102, st102⟩ := gF X101 hx hZ hown (tw127 hw) e101 F_a1_value (g := (mkF m 8 #[vr a1, vu] [(.ref a1)])) rfl rfl (hb hby d29_8)
 refine dS st102 ?_
 show Aq T102 11 #[vr a1, vu] [(.ref va)]
 refine dS (lenA X102 hx hZ e102 A_va (n := (2 : Int32)) rfl (g := (mkF m 11 #[vr a1, vu] [(.ref va)])) rfl rfl (hb hby d29_11)) ?_
 show Aq T102 12 #[vr a1, vu] [(.int 2)]
 refine aN X102 hx hby d29_12 rfl rfl ?_
 obtain ⟨T103, X103, e103, st103⟩ := gF X102 hx hZ hown (tw112 hw) e102 F_a1_intLen (g := (mkF m 13 #[vr a1, vu] [(.ref a1), (.int 2)])) rfl rfl (hb hby d29_13)
 refine dS st103 ?_
 show Aq T103 16 #[vr a1, vu] [(.int 2), (.int 2)]
 refine cY X103 hx hby d29_16 (pc' := 64) (teq (by decide)).1 (H := ?_)
 refine aN X103 hx hby d29_64 rfl rfl ?_
 obtain ⟨T104, X104, e104, st104⟩ := gF X103 hx hZ hown (tw127 hw) e103 F_a1_value (g := (mkF m 65 #[vr a1, vu] [(.ref a1)])) rfl rfl (hb hby d29_65)
 refine dS st104 ?_
 show Aq T104 68 #[vr a1, vu] [(.ref va)]
 exact Done.ref X104 hx hlk hret rfl rfl rfl (hb hby d29_68) (by decide) (by decide) ⟨rfl, N0, (by rw [e104]; exact (kr h0 []))⟩
theorem d31_0 : dq cd16 0 (.aload_n 0) 1 := by decide +kernel
theorem d31_1 : dq cd16 1 (.invokespecial 1) 3 := by decide +kernel
theorem d31_4 : dq cd16 4 .return_ 1 := by decide +kernel
theorem pn_31 : plainName "java/lang/Number" = true := by first | (simp [plainName, overriddenIn]; done) | decide +kernel
theorem ef_31 (m : MethodId) (a1 : Addr) : entryFrame m #[(.ref a1)] 1 = mkF m 0 #[.val (.ref a1)] [] := by first | (simp [entryFrame, mkF, argsToLocals, Value.category]; done) | rfl
theorem numi (l : Launch) (Z : State) (a0 : Array Value) (hw : HH a0 Z) (ws : List Jvm.Cond) (a1 : Addr) (h0 : Heap) (n0 : Nat) (Z0 : n0 ≤ h0.size) : MF l "java/lang/Number" "<init>" "()V" jdk_18_method_1_code 1 none ws ⟨1, 0, 0, 12⟩ Z h0 #[(.ref a1)] (fun v h L => v = none ∧ Fr n0 L ∧ Keep h0 h []) := by
 refine own_body (n0 := n0) (plainFor_of_name pn_31) (fun m => ef_31 m a1) ?_
 intro p e s m below meth c s₁ hZ hx hby hml hown hlk hret hnm X0 e0 N0
 show Aq s₁ 0 #[vr a1] []
 refine aN X0 hx hby d31_0 rfl rfl ?_
 obtain ⟨T101, X101, e101, st101⟩ := initO X0 hx hZ hown (tw198 hw) (tw8 hw) (tw9 hw) e0 (g := (mkF m 1 #[vr a1] [(.ref a1)])) rfl (by rw [hml]; rfl) rfl (hb hby d31_1) (by decide) (W := 0) (by show 2 * 0 + _ ≤ _; exact Nat.le_of_eq rfl) (by decide)
 refine dS st101 ?_
 show Aq T101 4 #[vr a1] []
 exact Done.void X101 hx hlk hret (hb hby d31_4) (by decide) (by decide) ⟨rfl, N0, (by rw [e101]; exact (kr h0 []))⟩
theorem d30_0 : dq cd17 0 (.aload_n 0) 1 := by decide +kernel
theorem d30_1 : dq cd17 1 (.invokespecial 3) 3 := by decide +kernel
theorem d30_4 : dq cd17 4 (.aload_n 0) 1 := by decide +kernel
theorem d30_5 : dq cd17 5 (.aload_n 1) 1 := by decide +kernel
theorem d30_6 : dq cd17 6 .arraylength 1 := by decide +kernel
theorem d30_7 : dq cd17 7 (.ifCond .ne 7) 3 := by decide +kernel
theorem d30_14 : dq cd17 14 (.iload_n 2) 1 := by decide +kernel
theorem d30_15 : dq cd17 15 (.putfield 32) 3 := by decide +kernel
theorem d30_18 : dq cd17 18 (.aload_n 0) 1 := by decide +kernel
theorem d30_19 : dq cd17 19 (.aload_n 1) 1 := by decide +kernel
theorem d30_20 : dq cd17 20 (.putfield 28) 3 := by decide +kernel
theorem d30_23 : dq cd17 23 (.aload_n 0) 1 := by decide +kernel
theorem d30_24 : dq cd17 24 (.getfield 28) 3 := by decide +kernel
theorem d30_27 : dq cd17 27 .arraylength 1 := by decide +kernel
theorem d30_28 : dq cd17 28 (.ldc 43) 2 := by decide +kernel
theorem d30_30 : dq cd17 30 (.if_icmp .lt 7) 3 := by decide +kernel
theorem d30_37 : dq cd17 37 .return_ 1 := by decide +kernel
theorem ef_30 (m : MethodId) (a1 : Addr) (a2 : Addr) (p3 : Int32) : entryFrame m #[(.ref a1), (.ref a2), (.int p3)] 3 = mkF m 0 #[.val (.ref a1), .val (.ref a2), .val (.int p3)] [] := by first | (simp [entryFrame, mkF, argsToLocals, Value.category]; done) | rfl
theorem bia1 (l : Launch) (Z : State) (a0 : Array Value) (hw : HH a0 Z) (ws : List Jvm.Cond) (a1 a2 : Addr) (p3 w0 : Int32) (h0 : Heap) (n0 : Nat) (Z0 : n0 ≤ h0.size) (E_a1 : Fl7 Z h0 a1) (F_a1_signum : Fl6 Z h0 a1 (.int 0)) (F_a1_mag : Fl5 Z h0 a1 .null) (g_a1 : n0 ≤ a1) (A_a2 : Ax Z h0 a2 .int [(.int w0)]) (ne_a1_a2 : a1 ≠ a2) : MF l "java/math/BigInteger" "<init>" "([II)V" jdk_2097_method_25_code 3 none ws ⟨2, 0, 0, 24⟩ Z h0 #[(.ref a1), (.ref a2), (.int p3)] (fun v h L => v = none ∧ Fr n0 L ∧ Keep h0 h [a1] ∧ Fl7 Z h a1 ∧ Fl6 Z h a1 (.int p3) ∧ Fl5 Z h a1 (.ref a2)) := by
 refine own_body (n0 := n0) (plainFor_of_name pn_24) (fun m => ef_30 m a1 a2 p3) ?_
 intro p e s m below meth c s₁ hZ hx hby hml hown hlk hret hnm X0 e0 N0
 show Aq s₁ 0 #[vr a1, vr a2, vi p3] []
 refine aN X0 hx hby d30_0 rfl rfl ?_
 obtain ⟨v101, T101, L101, X101, hQ101, st101⟩ := cI X0 hx hZ hown (tw192 hw) (tw193 hw) (tw196 hw) (tw197 hw) (numi l Z a0 hw [] a1  h0 n0 Z0 ) (W := 0) e0 (g := (mkF m 1 #[vr a1, vr a2, vi p3] [(.ref a1)])) rfl hml rfl (argsL := []) (rest := []) (lenOf pd_2 rfl) rfl rfl rfl (hb hby d30_1) rfl
 refine Done.far st101 ?_
 obtain ⟨rfl, N101q, K101q⟩ := hQ101
 show Aq T101 4 #[vr a1, vr a2, vi p3] []
 refine aN X101 hx hby d30_4 rfl rfl ?_
 refine aN X101 hx hby d30_5 rfl rfl ?_
 refine dS (lenA X101 hx hZ rfl (A_a2.keep K101q nin0) (n := (1 : Int32)) rfl (g := (mkF m 6 #[vr a1, vr a2, vi p3] [(.ref a2), (.ref a1)])) rfl rfl (hb hby d30_6)) ?_
 show Aq T101 7 #[vr a1, vr a2, vi p3] [(.int 1), (.ref a1)]
 refine iY X101 hx hby d30_7 (pc' := 14) ((if0 _ _).trans (feq (by decide)).2) (H := ?_)
 refine iN X101 hx hby d30_14 rfl ?_
 obtain ⟨T102, h102, X102, e102, W102, st102⟩ := putF X101 hx hZ hown (host := "") (Or.inl (tw93 hw)) Via.refl rfl (F_a1_signum.keep K101q nin0) (E_a1.keep K101q) (Or.inr ⟨(tw94 hw), rfl, hnm⟩) (tw182 hw) (ty := .int) (by decide) rfl rfl (g := (mkF m 15 #[vr a1, vr a2, vi p3] [(.int p3), (.ref a1)])) rfl rfl (hb hby d30_15)
 have f103 := (F_a1_signum.keep K101q nin0).same W102
 have f104 := (F_a1_mag.keep K101q nin0).other W102 (Or.inr (sq6 hw))
 refine dS st102 ?_
 show Aq T102 18 #[vr a1, vr a2, vi p3] []
 refine aN X102 hx hby d30_18 rfl rfl ?_
 refine aN X102 hx hby d30_19 rfl rfl ?_
 obtain ⟨T105, h105, X105, e105, W105, st105⟩ := putF X102 hx hZ hown (host := "") (Or.inl (tw199 hw)) Via.refl e102 f104 ((E_a1.keep K101q).wr W102) (Or.inr ⟨(tw111 hw), rfl, hnm⟩) (tw182 hw) (ty := (.array .int)) (by decide) rfl rfl (g := (mkF m 20 #[vr a1, vr a2, vi p3] [(.ref a2), (.ref a1)])) rfl rfl (hb hby d30_20)
 have f106 := f103.other W105 (Or.inr (sq7 hw))
 have f107 := f104.same W105
 have f108 := ((A_a2.keep K101q nin0).other W102 ne_a1_a2.symm).other W105 ne_a1_a2.symm
 have K105 := (((kr h0 [a1]).trans K101q all0).wr W102 (Or.inl me0)).wr W105 (Or.inl me0)
 refine dS st105 ?_
 show Aq T105 23 #[vr a1, vr a2, vi p3] []
 refine aN X105 hx hby d30_23 rfl rfl ?_
 obtain ⟨T109, X109, e109, st109⟩ := gF X105 hx hZ hown (tw199 hw) e105 f107 (g := (mkF m 24 #[vr a1, vr a2, vi p3] [(.ref a1)])) rfl rfl (hb hby d30_24)
 refine dS st109 ?_
 show Aq T109 27 #[vr a1, vr a2, vi p3] [(.ref a2)]
 refine dS (lenA X109 hx hZ e109 f108 (n := (1 : Int32)) rfl (g := (mkF m 27 #[vr a1, vr a2, vi p3] [(.ref a2)])) rfl rfl (hb hby d30_27)) ?_
 show Aq T109 28 #[vr a1, vr a2, vi p3] [(.int 1)]
 refine dS (X109.ldcInt hx hown (mvT hZ (tw200 hw)) (g := (mkF m 28 #[vr a1, vr a2, vi p3] [(.int 1)])) rfl (hb hby d30_28)) ?_
 show Aq T109 30 #[vr a1, vr a2, vi p3] [(.int 67108864), (.int 1)]
 refine cY X109 hx hby d30_30 (pc' := 37) (tlt (by decide)).1 (H := ?_)
 exact Done.void X109 hx hlk hret (hb hby d30_37) (by decide) (by decide) ⟨rfl, (Fr.snoc X105 (Fr.snoc X102 (Fr.app N0 N101q) g_a1) g_a1), (by rw [e109]; exact ⟨K105, (((E_a1.keep K101q).wr W102).wr W105), f106, f107⟩)⟩
theorem bia2 (l : Launch) (Z : State) (a0 : Array Value) (hw : HH a0 Z) (ws : List Jvm.Cond) (a1 a2 : Addr) (p3 w0 w1 : Int32) (h0 : Heap) (n0 : Nat) (Z0 : n0 ≤ h0.size) (E_a1 : Fl7 Z h0 a1) (F_a1_signum : Fl6 Z h0 a1 (.int 0)) (F_a1_mag : Fl5 Z h0 a1 .null) (g_a1 : n0 ≤ a1) (A_a2 : Ax Z h0 a2 .int [(.int w0), (.int w1)]) (ne_a1_a2 : a1 ≠ a2) : MF l "java/math/BigInteger" "<init>" "([II)V" jdk_2097_method_25_code 3 none ws ⟨2, 0, 0, 24⟩ Z h0 #[(.ref a1), (.ref a2), (.int p3)] (fun v h L => v = none ∧ Fr n0 L ∧ Keep h0 h [a1] ∧ Fl7 Z h a1 ∧ Fl6 Z h a1 (.int p3) ∧ Fl5 Z h a1 (.ref a2)) := by
 refine own_body (n0 := n0) (plainFor_of_name pn_24) (fun m => ef_30 m a1 a2 p3) ?_
 intro p e s m below meth c s₁ hZ hx hby hml hown hlk hret hnm X0 e0 N0
 show Aq s₁ 0 #[vr a1, vr a2, vi p3] []
 refine aN X0 hx hby d30_0 rfl rfl ?_
 obtain ⟨v101, T101, L101, X101, hQ101, st101⟩ := cI X0 hx hZ hown (tw192 hw) (tw193 hw) (tw196 hw) (tw197 hw) (numi l Z a0 hw [] a1  h0 n0 Z0 ) (W := 0) e0 (g := (mkF m 1 #[vr a1, vr a2, vi p3] [(.ref a1)])) rfl hml rfl (argsL := []) (rest := []) (lenOf pd_2 rfl) rfl rfl rfl (hb hby d30_1) rfl
 refine Done.far st101 ?_
 obtain ⟨rfl, N101q, K101q⟩ := hQ101
 show Aq T101 4 #[vr a1, vr a2, vi p3] []
 refine aN X101 hx hby d30_4 rfl rfl ?_
 refine aN X101 hx hby d30_5 rfl rfl ?_
 refine dS (lenA X101 hx hZ rfl (A_a2.keep K101q nin0) (n := (2 : Int32)) rfl (g := (mkF m 6 #[vr a1, vr a2, vi p3] [(.ref a2), (.ref a1)])) rfl rfl (hb hby d30_6)) ?_
 show Aq T101 7 #[vr a1, vr a2, vi p3] [(.int 2), (.ref a1)]
 refine iY X101 hx hby d30_7 (pc' := 14) ((if0 _ _).trans (feq (by decide)).2) (H := ?_)
 refine iN X101 hx hby d30_14 rfl ?_
 obtain ⟨T102, h102, X102, e102, W102, st102⟩ := putF X101 hx hZ hown (host := "") (Or.inl (tw93 hw)) Via.refl rfl (F_a1_signum.keep K101q nin0) (E_a1.keep K101q) (Or.inr ⟨(tw94 hw), rfl, hnm⟩) (tw182 hw) (ty := .int) (by decide) rfl rfl (g := (mkF m 15 #[vr a1, vr a2, vi p3] [(.int p3), (.ref a1)])) rfl rfl (hb hby d30_15)
 have f103 := (F_a1_signum.keep K101q nin0).same W102
 have f104 := (F_a1_mag.keep K101q nin0).other W102 (Or.inr (sq6 hw))
 refine dS st102 ?_
 show Aq T102 18 #[vr a1, vr a2, vi p3] []
 refine aN X102 hx hby d30_18 rfl rfl ?_
 refine aN X102 hx hby d30_19 rfl rfl ?_
 obtain ⟨T105, h105, X105, e105, W105, st105⟩ := putF X102 hx hZ hown (host := "") (Or.inl (tw199 hw)) Via.refl e102 f104 ((E_a1.keep K101q).wr W102) (Or.inr ⟨(tw111 hw), rfl, hnm⟩) (tw182 hw) (ty := (.array .int)) (by decide) rfl rfl (g := (mkF m 20 #[vr a1, vr a2, vi p3] [(.ref a2), (.ref a1)])) rfl rfl (hb hby d30_20)
 have f106 := f103.other W105 (Or.inr (sq7 hw))
 have f107 := f104.same W105
 have f108 := ((A_a2.keep K101q nin0).other W102 ne_a1_a2.symm).other W105 ne_a1_a2.symm
 have K105 := (((kr h0 [a1]).trans K101q all0).wr W102 (Or.inl me0)).wr W105 (Or.inl me0)
 refine dS st105 ?_
 show Aq T105 23 #[vr a1, vr a2, vi p3] []
 refine aN X105 hx hby d30_23 rfl rfl ?_
 obtain ⟨T109, X109, e109, st109⟩ := gF X105 hx hZ hown (tw199 hw) e105 f107 (g := (mkF m 24 #[vr a1, vr a2, vi p3] [(.ref a1)])) rfl rfl (hb hby d30_24)
 refine dS st109 ?_
 show Aq T109 27 #[vr a1, vr a2, vi p3] [(.ref a2)]
 refine dS (lenA X109 hx hZ e109 f108 (n := (2 : Int32)) rfl (g := (mkF m 27 #[vr a1, vr a2, vi p3] [(.ref a2)])) rfl rfl (hb hby d30_27)) ?_
 show Aq T109 28 #[vr a1, vr a2, vi p3] [(.int 2)]
 refine dS (X109.ldcInt hx hown (mvT hZ (tw200 hw)) (g := (mkF m 28 #[vr a1, vr a2, vi p3] [(.int 2)])) rfl (hb hby d30_28)) ?_
 show Aq T109 30 #[vr a1, vr a2, vi p3] [(.int 67108864), (.int 2)]
 refine cY X109 hx hby d30_30 (pc' := 37) (tlt (by decide)).1 (H := ?_)
 exact Done.void X109 hx hlk hret (hb hby d30_37) (by decide) (by decide) ⟨rfl, (Fr.snoc X105 (Fr.snoc X102 (Fr.app N0 N101q) g_a1) g_a1), (by rw [e109]; exact ⟨K105, (((E_a1.keep K101q).wr W102).wr W105), f106, f107⟩)⟩
theorem d28_0 : dq cd18 0 (.aload_n 0) 1 := by decide +kernel
theorem d28_1 : dq cd18 1 (.getfield 21) 3 := by decide +kernel
theorem d28_4 : dq cd18 4 (.ifCond .eq 7) 3 := by decide +kernel
theorem d28_7 : dq cd18 7 (.iload_n 1) 1 := by decide +kernel
theorem d28_8 : dq cd18 8 (.ifCond .ne 7) 3 := by decide +kernel
theorem d28_15 : dq cd18 15 (.new 1) 3 := by decide +kernel
theorem d28_18 : dq cd18 18 .dup 1 := by decide +kernel
theorem d28_19 : dq cd18 19 (.aload_n 0) 1 := by decide +kernel
theorem d28_20 : dq cd18 20 (.invokevirtual 58) 3 := by decide +kernel
theorem d28_23 : dq cd18 23 (.iload_n 1) 1 := by decide +kernel
theorem d28_24 : dq cd18 24 (.invokespecial 62) 3 := by decide +kernel
theorem d28_27 : dq cd18 27 .areturn 1 := by decide +kernel
theorem ef_28 (m : MethodId) (a1 : Addr) (p2 : Int32) : entryFrame m #[(.ref a1), (.int p2)] 2 = mkF m 0 #[.val (.ref a1), .val (.int p2)] [] := by first | (simp [entryFrame, mkF, argsToLocals, Value.category]; done) | rfl
theorem tbi1 (l : Launch) (Z : State) (a0 : Array Value) (hw : HH a0 Z) (ws : List Jvm.Cond) (a1 : Addr) (p2 : Int32) (va : Addr) (w0 : Int32) (h0 : Heap) (n0 : Nat) (Z0 : n0 ≤ h0.size) (E_a1 : Fl3 Z h0 a1) (F_a1_value : Fl0 Z h0 a1 (.ref va)) (F_a1_intLen : Fl1 Z h0 a1 (.int 1)) (F_a1_offset : Fl2 Z h0 a1 (.int 0)) (A_va : Ax Z h0 va .int [(.int w0)]) (hp2 : ¬ p2 = (0 : Int32)) : MF l "java/math/MutableBigInteger" "toBigInteger" "(I)Ljava/math/BigInteger;" jdk_2101_method_9_code 2 (some (.object "java/math/BigInteger")) ws ⟨3, 1, 6, 39⟩ Z h0 #[(.ref a1), (.int p2)] (fun v h L => ∃ (bb : Addr), v = some (.ref bb) ∧ Fr n0 L ∧ Keep h0 h [] ∧ Fl7 Z h bb ∧ Fl6 Z h bb (.int p2) ∧ Fl5 Z h bb (.ref va) ∧ h0.size ≤ bb) := by
 refine own_body (n0 := n0) (plainFor_of_name pn_27) (fun m => ef_28 m a1 p2) ?_
 intro p e s m below meth c s₁ hZ hx hby hml hown hlk hret hnm X0 e0 N0
 show Aq s₁ 0 #[vr a1, vi p2] []
 refine aN X0 hx hby d28_0 rfl rfl ?_
 obtain ⟨T101, X101, e101, st101⟩ := gF X0 hx hZ hown (tw112 hw) e0 F_a1_intLen (g := (mkF m 1 #[vr a1, vi p2] [(.ref a1)])) rfl rfl (hb hby d28_1)
 refine dS st101 ?_
 show Aq T101 4 #[vr a1, vi p2] [(.int 1)]
 refine iF X101 hx hby d28_4 ((if0 _ _).trans (feq (by decide)).1) ?_
 refine iN X101 hx hby d28_7 rfl ?_
 refine iY X101 hx hby d28_8 (pc' := 15) ((if0 _ _).trans (feq hp2).2) (H := ?_)
 obtain ⟨T102, h102, X102, e102, E102, A102, D102, -, st102⟩ := newO X101 hx hZ hown (tw181 hw) (tw182 hw) (tw81 hw) e101 (g := (mkF m 15 #[vr a1, vi p2] [])) rfl (hb hby d28_15) (by decide) (by decide)
 obtain ⟨b102, gq102⟩ : ∃ z, z = h0.size := ⟨_, rfl⟩
 rw [← gq102] at A102 D102 st102
 have sz_b102 := lb (kr h0 []).1 gq102
 have f103 : Fl6 Z h102 b102 (.int 0) := D102 (Or.inr (tw94 hw)) (ty := .int) (by decide)
 have f104 : Fl5 Z h102 b102 .null := D102 (Or.inr (tw111 hw)) (ty := (.array .int)) (by decide)
 refine dS st102 ?_
 show Aq T102 18 #[vr a1, vi p2] [(.ref b102)]
 refine dU X102 hx hby d28_18 rfl ?_
 refine aN X102 hx hby d28_19 rfl rfl ?_
 obtain ⟨v105, T105, L105, X105, hQ105, st105⟩ := cP X102 hx hZ hown (tw183 hw) (tw184 hw) (tw186 hw) (tw185 hw) (tw102 hw) (tw187 hw) (gma1 l Z a0 hw [] a1 va w0 h102 n0 (lq Z0 E102.1) (E_a1.ext E102) (F_a1_value.ext E102) (F_a1_intLen.ext E102) (F_a1_offset.ext E102) (A_va.ext E102)) (W := 2) e102 (E_a1.ext E102) (g := (mkF m 20 #[vr a1, vi p2] [(.ref a1), (.ref b102), (.ref b102)])) rfl hml rfl (argsL := []) (rest := [(.ref b102), (.ref b102)]) (lenOf pd_3 rfl) rfl rfl rfl (hb hby d28_20) rfl
 refine Done.far st105 ?_
 obtain ⟨rfl, N105q, K105q⟩ := hQ105
 show Aq T105 23 #[vr a1, vi p2] [(.ref va), (.ref b102), (.ref b102)]
 refine iN X105 hx hby d28_23 rfl ?_
 have ne107 := nl A_va.lt gq102
 obtain ⟨v106, T106, L106, X106, hQ106, st106⟩ := cI X105 hx hZ hown (tw188 hw) (tw189 hw) (tw81 hw) (tw191 hw) (bia1 l Z a0 hw [] b102 va p2 w0 T105.heap n0 (lq (lq Z0 E102.1) K105q.1) (A102.keep K105q) (f103.keep K105q nin0) (f104.keep K105q nin0) (lb Z0 gq102) ((A_va.ext E102).keep K105q nin0) ne107.symm) (W := 1) rfl (g := (mkF m 24 #[vr a1, vi p2] [(.int p2), (.ref va), (.ref b102), (.ref b102)])) rfl hml rfl (argsL := [(.ref va), (.int p2)]) (rest := [(.ref b102)]) (lenOf pd_4 rfl) rfl rfl rfl (hb hby d28_24) rfl
 refine Done.far st106 ?_
 obtain ⟨rfl, N106q, K106q, y106_0, y106_1, y106_2⟩ := hQ106
 have ne108 := nl E_a1.lt gq102
 have Kk106 := (((kr h0 []).ext E102).trans K105q all0).trans K106q (allS (Or.inr sz_b102) all0)
 show Aq T106 27 #[vr a1, vi p2] [(.ref b102)]
 exact Done.ref X106 hx hlk hret rfl rfl rfl (hb hby d28_27) (by decide) (by decide) ⟨b102, rfl, (Fr.app (Fr.app N0 N105q) N106q), ⟨Kk106, y106_0, y106_1, y106_2, sz_b102⟩⟩
theorem tbi2 (l : Launch) (Z : State) (a0 : Array Value) (hw : HH a0 Z) (ws : List Jvm.Cond) (a1 : Addr) (p2 : Int32) (va : Addr) (w0 w1 : Int32) (h0 : Heap) (n0 : Nat) (Z0 : n0 ≤ h0.size) (E_a1 : Fl3 Z h0 a1) (F_a1_value : Fl0 Z h0 a1 (.ref va)) (F_a1_intLen : Fl1 Z h0 a1 (.int 2)) (F_a1_offset : Fl2 Z h0 a1 (.int 0)) (A_va : Ax Z h0 va .int [(.int w0), (.int w1)]) (hp2 : ¬ p2 = (0 : Int32)) : MF l "java/math/MutableBigInteger" "toBigInteger" "(I)Ljava/math/BigInteger;" jdk_2101_method_9_code 2 (some (.object "java/math/BigInteger")) ws ⟨3, 1, 6, 39⟩ Z h0 #[(.ref a1), (.int p2)] (fun v h L => ∃ (bb : Addr), v = some (.ref bb) ∧ Fr n0 L ∧ Keep h0 h [] ∧ Fl7 Z h bb ∧ Fl6 Z h bb (.int p2) ∧ Fl5 Z h bb (.ref va) ∧ h0.size ≤ bb) := by
 refine own_body (n0 := n0) (plainFor_of_name pn_27) (fun m => ef_28 m a1 p2) ?_
 intro p e s m below meth c s₁ hZ hx hby hml hown hlk hret hnm X0 e0 N0
 show Aq s₁ 0 #[vr a1, vi p2] []
 refine aN X0 hx hby d28_0 rfl rfl ?_
 obtain ⟨T101, X101, e101, st101⟩ := gF X0 hx hZ hown (tw112 hw) e0 F_a1_intLen (g := (mkF m 1 #[vr a1, vi p2] [(.ref a1)])) rfl rfl (hb hby d28_1)
 refine dS st101 ?_
 show Aq T101 4 #[vr a1, vi p2] [(.int 2)]
 refine iF X101 hx hby d28_4 ((if0 _ _).trans (feq (by decide)).1) ?_
 refine iN X101 hx hby d28_7 rfl ?_
 refine iY X101 hx hby d28_8 (pc' := 15) ((if0 _ _).trans (feq hp2).2) (H := ?_)
 obtain ⟨T102, h102, X102, e102, E102, A102, D102, -, st102⟩ := newO X101 hx hZ hown (tw181 hw) (tw182 hw) (tw81 hw) e101 (g := (mkF m 15 #[vr a1, vi p2] [])) rfl (hb hby d28_15) (by decide) (by decide)
 obtain ⟨b102, gq102⟩ : ∃ z, z = h0.size := ⟨_, rfl⟩
 rw [← gq102] at A102 D102 st102
 have sz_b102 := lb (kr h0 []).1 gq102
 have f103 : Fl6 Z h102 b102 (.int 0) := D102 (Or.inr (tw94 hw)) (ty := .int) (by decide)
 have f104 : Fl5 Z h102 b102 .null := D102 (Or.inr (tw111 hw)) (ty := (.array .int)) (by decide)
 refine dS st102 ?_
 show Aq T102 18 #[vr a1, vi p2] [(.ref b102)]
 refine dU X102 hx hby d28_18 rfl ?_
 refine aN X102 hx hby d28_19 rfl rfl ?_
 obtain ⟨v105, T105, L105, X105, hQ105, st105⟩ := cP X102 hx hZ hown (tw183 hw) (tw184 hw) (tw186 hw) (tw185 hw) (tw102 hw) (tw187 hw) (gma2 l Z a0 hw [] a1 va w0 w1 h102 n0 (lq Z0 E102.1) (E_a1.ext E102) (F_a1_value.ext E102) (F_a1_intLen.ext E102) (F_a1_offset.ext E102) (A_va.ext E102)) (W := 2) e102 (E_a1.ext E102) (g := (mkF m 20 #[vr a1, vi p2] [(.ref a1), (.ref b102), (.ref b102)])) rfl hml rfl (argsL := []) (rest := [(.ref b102), (.ref b102)]) (lenOf pd_3 rfl) rfl rfl rfl (hb hby d28_20) rfl
 refine Done.far st105 ?_
 obtain ⟨rfl, N105q, K105q⟩ := hQ105
 show Aq T105 23 #[vr a1, vi p2] [(.ref va), (.ref b102), (.ref b102)]
 refine iN X105 hx hby d28_23 rfl ?_
 have ne107 := nl A_va.lt gq102
 obtain ⟨v106, T106, L106, X106, hQ106, st106⟩ := cI X105 hx hZ hown (tw188 hw) (tw189 hw) (tw81 hw) (tw191 hw) (bia2 l Z a0 hw [] b102 va p2 w0 w1 T105.heap n0 (lq (lq Z0 E102.1) K105q.1) (A102.keep K105q) (f103.keep K105q nin0) (f104.keep K105q nin0) (lb Z0 gq102) ((A_va.ext E102).keep K105q nin0) ne107.symm) (W := 1) rfl (g := (mkF m 24 #[vr a1, vi p2] [(.int p2), (.ref va), (.ref b102), (.ref b102)])) rfl hml rfl (argsL := [(.ref va), (.int p2)]) (rest := [(.ref b102)]) (lenOf pd_4 rfl) rfl rfl rfl (hb hby d28_24) rfl
 refine Done.far st106 ?_
 obtain ⟨rfl, N106q, K106q, y106_0, y106_1, y106_2⟩ := hQ106
 have ne108 := nl E_a1.lt gq102
 have Kk106 := (((kr h0 []).ext E102).trans K105q all0).trans K106q (allS (Or.inr sz_b102) all0)
 show Aq T106 27 #[vr a1, vi p2] [(.ref b102)]
 exact Done.ref X106 hx hlk hret rfl rfl rfl (hb hby d28_27) (by decide) (by decide) ⟨b102, rfl, (Fr.app (Fr.app N0 N105q) N106q), ⟨Kk106, y106_0, y106_1, y106_2, sz_b102⟩⟩
theorem own_shne {w nb : Int32} {t : Nat} (hnb : nb = Int32.ofNat t) (ht : t < 32) (hle : 2 ^ t ≤ U w) : ¬ ((w.toUInt32 >>> (nb &&& 31).toUInt32).toInt32) = (0 : Int32) := by
 subst hnb
 refine own_neu ?_
 rw [own_ush w t ht]
 exact (Nat.le_div_iff_mul_le (Nat.two_pow_pos t)).mpr (by omega)
theorem own_nb0 {nb : Int32} {t : Nat} (hnb : nb = Int32.ofNat t) (ht : t < 32) (h : nb = (0 : Int32)) : t = 0 := by
 have q := (own_f32 ⟨t, ht⟩).2.2.2.2.2.2.2.2.2.1
 dsimp only at q
 exact q (hnb.symm.trans h)
theorem own_nbn {nb : Int32} {t : Nat} (hnb : nb = Int32.ofNat t) (h : ¬ nb = (0 : Int32)) : ¬ t = 0 := fun q => h (by rw [hnb, q]; rfl)
theorem own_rs1 {w nb x : Int32} {t : Nat} (hnb : nb = Int32.ofNat t) (hle : 2 ^ t ≤ U w) (hc : ¬ nb = (0 : Int32)) : w = (1 : Int32) → x = (1 : Int32) := fun q => by
 have n := own_nbn hnb hc
 have p : 2 ^ 1 ≤ 2 ^ t := Nat.pow_le_pow_right (by decide) (by omega)
 rw [q] at hle
 have e : U (1 : Int32) = 1 := by decide
 omega
theorem own_rs0 {w nb : Int32} {t : Nat} (hnb : nb = Int32.ofNat t) (ht : t < 32) (hodd : (U w / 2 ^ t) % 2 = 1) (h : nb = (0 : Int32)) : U w % 2 = 1 := by
 have q := own_nb0 hnb ht h
 subst q
 simpa using hodd
theorem own_rsR {x y nb : Int32} {t : Nat} (hnb : nb = Int32.ofNat t) (ht : t < 32) (hodd : (U y / 2 ^ t) % 2 = 1) (hx : 1 ≤ U x) (hc : ¬ nb = (0 : Int32)) (hl : nb < F24 x) : ¬ ((x.toUInt32 >>> (nb &&& 31).toUInt32).toInt32) = (0 : Int32) ∧ U ((x <<< (((32 : Int32) - nb) &&& 31)) ||| ((y.toUInt32 >>> (nb &&& 31).toUInt32).toInt32)) % 2 = 1 ∧ MM ((x.toUInt32 >>> (nb &&& 31).toUInt32).toInt32) ((x <<< (((32 : Int32) - nb) &&& 31)) ||| ((y.toUInt32 >>> (nb &&& 31).toUInt32).toInt32)) ≤ MM x y := by
 have hn := own_nbn hnb hc
 have hnt : nb.toInt = (t : Int) := by rw [hnb]; exact (own_f32 ⟨t, ht⟩).1
 have hle := (own_bl hx hnt ht).mp hl
 refine ⟨own_shne hnb ht hle, own_or_odd ?_, own_mle (t := t) ?_ hn hx⟩
 ·rw [hnb, own_ush y t ht]; exact hodd
 ·rw [hnb, own_ush x t ht]
theorem own_rsL {x y nb : Int32} {t : Nat} (hnb : nb = Int32.ofNat t) (ht : t < 32) (hodd : (U y / 2 ^ t) % 2 = 1) : ¬ ((x <<< (((32 : Int32) - nb) &&& 31)) ||| ((y.toUInt32 >>> (((32 : Int32) - ((32 : Int32) - nb)) &&& 31).toUInt32).toInt32)) = (0 : Int32) := by
 refine own_neu (own_odd1 (own_or_odd ?_))
 have q := (own_f32 ⟨t, ht⟩).2.2.2.2.2.2.2.2.1
 dsimp only at q
 rw [hnb, q, own_ush y t ht]; exact hodd
theorem d23_0 : dq cd19 0 (.aload_n 0) 1 := by decide +kernel
theorem d23_1 : dq cd19 1 (.getfield 21) 3 := by decide +kernel
theorem d23_4 : dq cd19 4 (.ifCond .ne 4) 3 := by decide +kernel
theorem d23_8 : dq cd19 8 (.iload_n 1) 1 := by decide +kernel
theorem d23_9 : dq cd19 9 (.iconst 5) 1 := by decide +kernel
theorem d23_10 : dq cd19 10 .iushr 1 := by decide +kernel
theorem d23_11 : dq cd19 11 (.istore_n 2) 1 := by decide +kernel
theorem d23_12 : dq cd19 12 (.iload_n 1) 1 := by decide +kernel
theorem d23_13 : dq cd19 13 (.bipush 31) 2 := by decide +kernel
theorem d23_15 : dq cd19 15 .iand 1 := by decide +kernel
theorem d23_16 : dq cd19 16 (.istore_n 3) 1 := by decide +kernel
theorem d23_17 : dq cd19 17 (.aload_n 0) 1 := by decide +kernel
theorem d23_18 : dq cd19 18 .dup 1 := by decide +kernel
theorem d23_19 : dq cd19 19 (.getfield 21) 3 := by decide +kernel
theorem d23_22 : dq cd19 22 (.iload_n 2) 1 := by decide +kernel
theorem d23_23 : dq cd19 23 .isub 1 := by decide +kernel
theorem d23_24 : dq cd19 24 (.putfield 21) 3 := by decide +kernel
theorem d23_27 : dq cd19 27 (.iload_n 3) 1 := by decide +kernel
theorem d23_28 : dq cd19 28 (.ifCond .ne 4) 3 := by decide +kernel
theorem d23_31 : dq cd19 31 .return_ 1 := by decide +kernel
theorem d23_32 : dq cd19 32 (.aload_n 0) 1 := by decide +kernel
theorem d23_33 : dq cd19 33 (.getfield 17) 3 := by decide +kernel
theorem d23_36 : dq cd19 36 (.aload_n 0) 1 := by decide +kernel
theorem d23_37 : dq cd19 37 (.getfield 11) 3 := by decide +kernel
theorem d23_40 : dq cd19 40 .iaload 1 := by decide +kernel
theorem d23_41 : dq cd19 41 (.invokestatic 112) 3 := by decide +kernel
theorem d23_44 : dq cd19 44 (.istore 4) 2 := by decide +kernel
theorem d23_46 : dq cd19 46 (.iload_n 3) 1 := by decide +kernel
theorem d23_47 : dq cd19 47 (.iload 4) 2 := by decide +kernel
theorem d23_49 : dq cd19 49 (.if_icmp .lt 24) 3 := by decide +kernel
theorem d23_73 : dq cd19 73 (.aload_n 0) 1 := by decide +kernel
theorem d23_74 : dq cd19 74 (.iload_n 3) 1 := by decide +kernel
theorem d23_75 : dq cd19 75 (.invokevirtual 118) 3 := by decide +kernel
theorem d23_78 : dq cd19 78 .return_ 1 := by decide +kernel
theorem ef_23 (m : MethodId) (a1 : Addr) (p2 : Int32) : entryFrame m #[(.ref a1), (.int p2)] 5 = mkF m 0 #[.val (.ref a1), .val (.int p2), .unset, .unset, .unset] [] := by first | (simp [entryFrame, mkF, argsToLocals, Value.category]; done) | rfl
theorem rs11 (l : Launch) (Z : State) (a0 : Array Value) (hw : HH a0 Z) (ws : List Jvm.Cond) (a1 : Addr) (p2 : Int32) (va : Addr) (w0 nb : Int32) (t : Nat) (h0 : Heap) (n0 : Nat) (Z0 : n0 ≤ h0.size) (E_a1 : Fl3 Z h0 a1) (F_a1_value : Fl0 Z h0 a1 (.ref va)) (F_a1_intLen : Fl1 Z h0 a1 (.int 1)) (F_a1_offset : Fl2 Z h0 a1 (.int 0)) (A_va : Ax Z h0 va .int [(.int w0)]) (g_a1 : n0 ≤ a1) (g_va : n0 ≤ va) (ne_a1_va : a1 ≠ va) (h5 : ((p2.toUInt32 >>> ((5 : Int32) &&& 31).toUInt32).toInt32) = (0 : Int32)) (h31 : (p2 &&& (31 : Int32)) = nb) (hnb : nb = Int32.ofNat t) (ht : t < 32) (hle : 2 ^ t ≤ U w0) (hwu : 1 ≤ U w0) : MF l "java/math/MutableBigInteger" "rightShift" "(I)V" jdk_2101_method_35_code 5 none ws ⟨2, 0, 0, 26⟩ Z h0 #[(.ref a1), (.int p2)] (fun v h L => ∃ (A0 : Int32), v = none ∧ Fr n0 L ∧ Keep h0 h [a1, va] ∧ Fl3 Z h a1 ∧ Fl0 Z h a1 (.ref va) ∧ Fl1 Z h a1 (.int 1) ∧ Fl2 Z h a1 (.int 0) ∧ Ax Z h va .int [(.int A0)] ∧ (¬ A0 = (0 : Int32)) ∧ (w0 = (1 : Int32) → A0 = (1 : Int32))) := by
 refine own_body (n0 := n0) (plainFor_of_name pn_27) (fun m => ef_23 m a1 p2) ?_
 intro p e s m below meth c s₁ hZ hx hby hml hown hlk hret hnm X0 e0 N0
 have hnt : nb.toInt = (t : Int) := by rw [hnb]; exact (own_f32 ⟨t, ht⟩).1
 show Aq s₁ 0 #[vr a1, vi p2, vu, vu, vu] []
 refine aN X0 hx hby d23_0 rfl rfl ?_
 obtain ⟨T101, X101, e101, st101⟩ := gF X0 hx hZ hown (tw112 hw) e0 F_a1_intLen (g := (mkF m 1 #[vr a1, vi p2, vu, vu, vu] [(.ref a1)])) rfl rfl (hb hby d23_1)
 refine dS st101 ?_
 show Aq T101 4 #[vr a1, vi p2, vu, vu, vu] [(.int 1)]
 refine iY X101 hx hby d23_4 (pc' := 8) ((if0 _ _).trans (feq (by decide)).2) (H := ?_)
 refine iN X101 hx hby d23_8 rfl ?_
 refine iC X101 hx hby d23_9 (z := 5) rfl ?_
 refine iU X101 hx hby d23_10 ?_
 rw [show ((p2.toUInt32 >>> ((5 : Int32) &&& 31).toUInt32).toInt32) = (0 : Int32) from h5]
 refine sN X101 hx hby d23_11 (l' := #[vr a1, vi p2, vi 0, vu, vu]) rfl ?_
 refine iN X101 hx hby d23_12 rfl ?_
 refine iB X101 hx hby d23_13 (z := 31) rfl ?_
 refine dS (fun t k => XS.iand X101.here hx rfl (hb hby d23_15) rfl k) ?_
 show Aq T101 16 #[vr a1, vi p2, vi 0, vu, vu] [(.int (p2 &&& (31 : Int32)))]
 rw [show (p2 &&& (31 : Int32)) = nb from h31]
 show Aq T101 16 #[vr a1, vi p2, vi 0, vu, vu] [(.int nb)]
 refine sN X101 hx hby d23_16 (l' := #[vr a1, vi p2, vi 0, vi nb, vu]) rfl ?_
 refine aN X101 hx hby d23_17 rfl rfl ?_
 refine dU X101 hx hby d23_18 rfl ?_
 obtain ⟨T102, X102, e102, st102⟩ := gF X101 hx hZ hown (tw112 hw) e101 F_a1_intLen (g := (mkF m 19 #[vr a1, vi p2, vi 0, vi nb, vu] [(.ref a1), (.ref a1)])) rfl rfl (hb hby d23_19)
 refine dS st102 ?_
 show Aq T102 22 #[vr a1, vi p2, vi 0, vi nb, vu] [(.int 1), (.ref a1)]
 refine iN X102 hx hby d23_22 rfl ?_
 refine iS X102 hx hby d23_23 ?_
 rw [show ((1 : Int32) - (0 : Int32)) = (1 : Int32) from by decide]
 obtain ⟨T103, h103, X103, e103, W103, st103⟩ := putF X102 hx hZ hown (host := "") (Or.inl (tw112 hw)) Via.refl e102 F_a1_intLen E_a1 (Or.inl (tw113 hw)) (tw101 hw) (ty := .int) (by decide) rfl rfl (g := (mkF m 24 #[vr a1, vi p2, vi 0, vi nb, vu] [(.int 1), (.ref a1)])) rfl rfl (hb hby d23_24)
 have f104 := F_a1_value.other W103 (Or.inr (sq4 hw))
 have f105 := F_a1_intLen.same W103
 have f106 := F_a1_offset.other W103 (Or.inr (sq5 hw))
 refine dS st103 ?_
 show Aq T103 27 #[vr a1, vi p2, vi 0, vi nb, vu] []
 refine iN X103 hx hby d23_27 rfl ?_
 by_cases c1 : nb = (0 : Int32)
 ·refine iF X103 hx hby d23_28 ((if0 _ _).trans (teq c1).2) ?_
  exact Done.void X103 hx hlk hret (hb hby d23_31) (by decide) (by decide) ⟨w0, rfl, (Fr.snoc X103 N0 g_a1), (by rw [e103]; exact ⟨((kr h0 [a1, va]).wr W103 (Or.inl me0)), (E_a1.wr W103), f104, f105, f106, (A_va.other W103 ne_a1_va.symm), (own_neu hwu), (fun q => q)⟩)⟩
 ·refine iY X103 hx hby d23_28 (pc' := 32) ((if0 _ _).trans (feq c1).2) (H := ?_)
  refine aN X103 hx hby d23_32 rfl rfl ?_
  obtain ⟨T107, X107, e107, st107⟩ := gF X103 hx hZ hown (tw127 hw) e103 f104 (g := (mkF m 33 #[vr a1, vi p2, vi 0, vi nb, vu] [(.ref a1)])) rfl rfl (hb hby d23_33)
  refine dS st107 ?_
  show Aq T107 36 #[vr a1, vi p2, vi 0, vi nb, vu] [(.ref va)]
  refine aN X107 hx hby d23_36 rfl rfl ?_
  obtain ⟨T108, X108, e108, st108⟩ := gF X107 hx hZ hown (tw108 hw) e107 f106 (g := (mkF m 37 #[vr a1, vi p2, vi 0, vi nb, vu] [(.ref a1), (.ref va)])) rfl rfl (hb hby d23_37)
  refine dS st108 ?_
  show Aq T108 40 #[vr a1, vi p2, vi 0, vi nb, vu] [(.int 0), (.ref va)]
  refine dS (ldI X108 hx hZ e108 (A_va.other W103 ne_a1_va.symm) (j := (0 : Int32)) (x := (.int w0)) (by decide) rfl (g := (mkF m 40 #[vr a1, vi p2, vi 0, vi nb, vu] [(.int 0), (.ref va)])) rfl rfl (hb hby d23_40)) ?_
  show Aq T108 41 #[vr a1, vi p2, vi 0, vi nb, vu] [(.int w0)]
  obtain ⟨v109, T109, L109, X109, hQ109, st109⟩ := cS X108 hx hZ hown (tw162 hw) (tw163 hw) (tw81 hw) (tw164 hw) (rm24 l Z a0 hw [] w0 h103 n0 (lw Z0 W103) ) (W := 0) e108 (g := (mkF m 41 #[vr a1, vi p2, vi 0, vi nb, vu] [(.int w0)])) rfl hml rfl (argsL := [(.int w0)]) (rest := []) (lenOf pd_0 rfl) rfl rfl rfl (hb hby d23_41) rfl
  refine dS st109 ?_
  obtain ⟨rfl, N109q, e109⟩ := hQ109
  have N109 := Fr.app (Fr.snoc X103 N0 g_a1) N109q
  show Aq T109 44 #[vr a1, vi p2, vi 0, vi nb, vu] [(.int (F24 w0))]
  refine sL X109 hx hby d23_44 (l' := #[vr a1, vi p2, vi 0, vi nb, vi (F24 w0)]) rfl ?_
  refine iN X109 hx hby d23_46 rfl ?_
  refine iL X109 hx hby d23_47 rfl ?_
  refine cY X109 hx hby d23_49 (pc' := 73) (tlt ((own_bl hwu hnt ht).mpr hle)).1 (H := ?_)
  refine aN X109 hx hby d23_73 rfl rfl ?_
  refine iN X109 hx hby d23_74 rfl ?_
  obtain ⟨v110, T110, L110, X110, hQ110, st110⟩ := cP X109 hx hZ hown (tw168 hw) (tw169 hw) (tw171 hw) (tw170 hw) (tw102 hw) (tw172 hw) (rmpr11 l Z a0 hw [] a1 nb va w0 h103 n0 (lw Z0 W103) (E_a1.wr W103) f104 f105 f106 (A_va.other W103 ne_a1_va.symm) g_va ne_a1_va) (W := 0) e109 (E_a1.wr W103) (g := (mkF m 75 #[vr a1, vi p2, vi 0, vi nb, vi (F24 w0)] [(.int nb), (.ref a1)])) rfl hml rfl (argsL := [(.int nb)]) (rest := []) (lenOf pd_5 rfl) rfl rfl rfl (hb hby d23_75) rfl
  refine Done.far st110 ?_
  obtain ⟨rfl, N110q, K110q, x110⟩ := hQ110
  have Kk110 := ((kr h0 [a1, va]).wr W103 (Or.inl me0)).trans K110q (allS (Or.inl me1) all0)
  show Aq T110 78 #[vr a1, vi p2, vi 0, vi nb, vi (F24 w0)] []
  exact Done.void X110 hx hlk hret (hb hby d23_78) (by decide) (by decide) ⟨((w0.toUInt32 >>> (nb &&& 31).toUInt32).toInt32), rfl, (Fr.app N109 N110q), ⟨Kk110, ((E_a1.wr W103).keep K110q), (f104.keep K110q (ni1 ne_a1_va)), (f105.keep K110q (ni1 ne_a1_va)), (f106.keep K110q (ni1 ne_a1_va)), x110, (own_shne hnb ht hle), (own_rs1 hnb hle c1)⟩⟩
theorem d23_52 : dq cd19 52 (.aload_n 0) 1 := by decide +kernel
theorem d23_53 : dq cd19 53 (.bipush 32) 2 := by decide +kernel
theorem d23_55 : dq cd19 55 (.iload_n 3) 1 := by decide +kernel
theorem d23_56 : dq cd19 56 .isub 1 := by decide +kernel
theorem d23_57 : dq cd19 57 (.invokevirtual 115) 3 := by decide +kernel
theorem d23_60 : dq cd19 60 (.aload_n 0) 1 := by decide +kernel
theorem d23_61 : dq cd19 61 .dup 1 := by decide +kernel
theorem d23_62 : dq cd19 62 (.getfield 21) 3 := by decide +kernel
theorem d23_65 : dq cd19 65 (.iconst 1) 1 := by decide +kernel
theorem d23_66 : dq cd19 66 .isub 1 := by decide +kernel
theorem d23_67 : dq cd19 67 (.putfield 21) 3 := by decide +kernel
theorem d23_70 : dq cd19 70 (.goto 8) 3 := by decide +kernel
theorem rs22a (l : Launch) (Z : State) (a0 : Array Value) (hw : HH a0 Z) (ws : List Jvm.Cond) (a1 : Addr) (p2 : Int32) (va : Addr) (w0 w1 nb : Int32) (t : Nat) (h0 : Heap) (n0 : Nat) (Z0 : n0 ≤ h0.size) (E_a1 : Fl3 Z h0 a1) (F_a1_value : Fl0 Z h0 a1 (.ref va)) (F_a1_intLen : Fl1 Z h0 a1 (.int 2)) (F_a1_offset : Fl2 Z h0 a1 (.int 0)) (A_va : Ax Z h0 va .int [(.int w0), (.int w1)]) (g_a1 : n0 ≤ a1) (g_va : n0 ≤ va) (ne_a1_va : a1 ≠ va) (h5 : ((p2.toUInt32 >>> ((5 : Int32) &&& 31).toUInt32).toInt32) = (0 : Int32)) (h31 : (p2 &&& (31 : Int32)) = nb) (hnb : nb = Int32.ofNat t) (ht : t < 32) (hodd : (U w1 / 2 ^ t) % 2 = 1) (hwu : 1 ≤ U w0) : MF l "java/math/MutableBigInteger" "rightShift" "(I)V" jdk_2101_method_35_code 5 none ws ⟨2, 0, 0, 26⟩ Z h0 #[(.ref a1), (.int p2)] (fun v h L => ∃ (A0 B0 : Int32), v = none ∧ Fr n0 L ∧ Keep h0 h [a1, va] ∧ Fl3 Z h a1 ∧ Fl0 Z h a1 (.ref va) ∧ Fl2 Z h a1 (.int 0) ∧ Ax Z h va .int [(.int A0), (.int B0)] ∧ ((Fl1 Z h a1 (.int 2) ∧ ¬ A0 = (0 : Int32) ∧ U B0 % 2 = 1 ∧ MM A0 B0 ≤ MM w0 w1) ∨ (Fl1 Z h a1 (.int 1) ∧ ¬ A0 = (0 : Int32)))) := by
 refine own_body (n0 := n0) (plainFor_of_name pn_27) (fun m => ef_23 m a1 p2) ?_
 intro p e s m below meth c s₁ hZ hx hby hml hown hlk hret hnm X0 e0 N0
 show Aq s₁ 0 #[vr a1, vi p2, vu, vu, vu] []
 refine aN X0 hx hby d23_0 rfl rfl ?_
 obtain ⟨T101, X101, e101, st101⟩ := gF X0 hx hZ hown (tw112 hw) e0 F_a1_intLen (g := (mkF m 1 #[vr a1, vi p2, vu, vu, vu] [(.ref a1)])) rfl rfl (hb hby d23_1)
 refine dS st101 ?_
 show Aq T101 4 #[vr a1, vi p2, vu, vu, vu] [(.int 2)]
 refine iY X101 hx hby d23_4 (pc' := 8) ((if0 _ _).trans (feq (by decide)).2) (H := ?_)
 refine iN X101 hx hby d23_8 rfl ?_
 refine iC X101 hx hby d23_9 (z := 5) rfl ?_
 refine iU X101 hx hby d23_10 ?_
 rw [show ((p2.toUInt32 >>> ((5 : Int32) &&& 31).toUInt32).toInt32) = (0 : Int32) from h5]
 refine sN X101 hx hby d23_11 (l' := #[vr a1, vi p2, vi 0, vu, vu]) rfl ?_
 refine iN X101 hx hby d23_12 rfl ?_
 refine iB X101 hx hby d23_13 (z := 31) rfl ?_
 refine dS (fun t k => XS.iand X101.here hx rfl (hb hby d23_15) rfl k) ?_
 show Aq T101 16 #[vr a1, vi p2, vi 0, vu, vu] [(.int (p2 &&& (31 : Int32)))]
 rw [show (p2 &&& (31 : Int32)) = nb from h31]
 show Aq T101 16 #[vr a1, vi p2, vi 0, vu, vu] [(.int nb)]
 refine sN X101 hx hby d23_16 (l' := #[vr a1, vi p2, vi 0, vi nb, vu]) rfl ?_
 refine aN X101 hx hby d23_17 rfl rfl ?_
 refine dU X101 hx hby d23_18 rfl ?_
 obtain ⟨T102, X102, e102, st102⟩ := gF X101 hx hZ hown (tw112 hw) e101 F_a1_intLen (g := (mkF m 19 #[vr a1, vi p2, vi 0, vi nb, vu] [(.ref a1), (.ref a1)])) rfl rfl (hb hby d23_19)
 refine dS st102 ?_
 show Aq T102 22 #[vr a1, vi p2, vi 0, vi nb, vu] [(.int 2), (.ref a1)]
 refine iN X102 hx hby d23_22 rfl ?_
 refine iS X102 hx hby d23_23 ?_
 rw [show ((2 : Int32) - (0 : Int32)) = (2 : Int32) from by decide]
 obtain ⟨T103, h103, X103, e103, W103, st103⟩ := putF X102 hx hZ hown (host := "") (Or.inl (tw112 hw)) Via.refl e102 F_a1_intLen E_a1 (Or.inl (tw113 hw)) (tw101 hw) (ty := .int) (by decide) rfl rfl (g := (mkF m 24 #[vr a1, vi p2, vi 0, vi nb, vu] [(.int 2), (.ref a1)])) rfl rfl (hb hby d23_24)
 have f104 := F_a1_value.other W103 (Or.inr (sq4 hw))
 have f105 := F_a1_intLen.same W103
 have f106 := F_a1_offset.other W103 (Or.inr (sq5 hw))
 refine dS st103 ?_
 show Aq T103 27 #[vr a1, vi p2, vi 0, vi nb, vu] []
 refine iN X103 hx hby d23_27 rfl ?_
 by_cases c1 : nb = (0 : Int32)
 ·refine iF X103 hx hby d23_28 ((if0 _ _).trans (teq c1).2) ?_
  exact Done.void X103 hx hlk hret (hb hby d23_31) (by decide) (by decide) ⟨w0, w1, rfl, (Fr.snoc X103 N0 g_a1), (by rw [e103]; exact ⟨((kr h0 [a1, va]).wr W103 (Or.inl me0)), (E_a1.wr W103), f104, f106, (A_va.other W103 ne_a1_va.symm), (Or.inl ⟨f105, own_neu hwu, own_rs0 hnb ht hodd c1, Nat.le_refl _⟩)⟩)⟩
 ·refine iY X103 hx hby d23_28 (pc' := 32) ((if0 _ _).trans (feq c1).2) (H := ?_)
  refine aN X103 hx hby d23_32 rfl rfl ?_
  obtain ⟨T107, X107, e107, st107⟩ := gF X103 hx hZ hown (tw127 hw) e103 f104 (g := (mkF m 33 #[vr a1, vi p2, vi 0, vi nb, vu] [(.ref a1)])) rfl rfl (hb hby d23_33)
  refine dS st107 ?_
  show Aq T107 36 #[vr a1, vi p2, vi 0, vi nb, vu] [(.ref va)]
  refine aN X107 hx hby d23_36 rfl rfl ?_
  obtain ⟨T108, X108, e108, st108⟩ := gF X107 hx hZ hown (tw108 hw) e107 f106 (g := (mkF m 37 #[vr a1, vi p2, vi 0, vi nb, vu] [(.ref a1), (.ref va)])) rfl rfl (hb hby d23_37)
  refine dS st108 ?_
  show Aq T108 40 #[vr a1, vi p2, vi 0, vi nb, vu] [(.int 0), (.ref va)]
  refine dS (ldI X108 hx hZ e108 (A_va.other W103 ne_a1_va.symm) (j := (0 : Int32)) (x := (.int w0)) (by decide) rfl (g := (mkF m 40 #[vr a1, vi p2, vi 0, vi nb, vu] [(.int 0), (.ref va)])) rfl rfl (hb hby d23_40)) ?_
  show Aq T108 41 #[vr a1, vi p2, vi 0, vi nb, vu] [(.int w0)]
  obtain ⟨v109, T109, L109, X109, hQ109, st109⟩ := cS X108 hx hZ hown (tw162 hw) (tw163 hw) (tw81 hw) (tw164 hw) (rm24 l Z a0 hw [] w0 h103 n0 (lw Z0 W103) ) (W := 0) e108 (g := (mkF m 41 #[vr a1, vi p2, vi 0, vi nb, vu] [(.int w0)])) rfl hml rfl (argsL := [(.int w0)]) (rest := []) (lenOf pd_0 rfl) rfl rfl rfl (hb hby d23_41) rfl
  refine dS st109 ?_
  obtain ⟨rfl, N109q, e109⟩ := hQ109
  have N109 := Fr.app (Fr.snoc X103 N0 g_a1) N109q
  show Aq T109 44 #[vr a1, vi p2, vi 0, vi nb, vu] [(.int (F24 w0))]
  refine sL X109 hx hby d23_44 (l' := #[vr a1, vi p2, vi 0, vi nb, vi (F24 w0)]) rfl ?_
  refine iN X109 hx hby d23_46 rfl ?_
  refine iL X109 hx hby d23_47 rfl ?_
  by_cases c2 : nb < (F24 w0)
  ·refine cY X109 hx hby d23_49 (pc' := 73) (tlt c2).1 (H := ?_)
   refine aN X109 hx hby d23_73 rfl rfl ?_
   refine iN X109 hx hby d23_74 rfl ?_
   obtain ⟨v110, T110, L110, X110, hQ110, st110⟩ := cP X109 hx hZ hown (tw168 hw) (tw169 hw) (tw171 hw) (tw170 hw) (tw102 hw) (tw172 hw) (rmpr22 l Z a0 hw [] a1 nb va w0 w1 h103 n0 (lw Z0 W103) (E_a1.wr W103) f104 f105 f106 (A_va.other W103 ne_a1_va.symm) g_va ne_a1_va) (W := 0) e109 (E_a1.wr W103) (g := (mkF m 75 #[vr a1, vi p2, vi 0, vi nb, vi (F24 w0)] [(.int nb), (.ref a1)])) rfl hml rfl (argsL := [(.int nb)]) (rest := []) (lenOf pd_5 rfl) rfl rfl rfl (hb hby d23_75) rfl
   refine Done.far st110 ?_
   obtain ⟨rfl, N110q, K110q, x110⟩ := hQ110
   have Kk110 := ((kr h0 [a1, va]).wr W103 (Or.inl me0)).trans K110q (allS (Or.inl me1) all0)
   show Aq T110 78 #[vr a1, vi p2, vi 0, vi nb, vi (F24 w0)] []
   exact Done.void X110 hx hlk hret (hb hby d23_78) (by decide) (by decide) ⟨((w0.toUInt32 >>> (nb &&& 31).toUInt32).toInt32), ((w0 <<< (((32 : Int32) - nb) &&& 31)) ||| ((w1.toUInt32 >>> (nb &&& 31).toUInt32).toInt32)), rfl, (Fr.app N109 N110q), ⟨Kk110, ((E_a1.wr W103).keep K110q), (f104.keep K110q (ni1 ne_a1_va)), (f106.keep K110q (ni1 ne_a1_va)), x110, (Or.inl ⟨(f105.keep K110q (ni1 ne_a1_va)), own_rsR hnb ht hodd hwu c1 c2⟩)⟩⟩
  ·refine cF X109 hx hby d23_49 (flt c2).1 ?_
   refine aN X109 hx hby d23_52 rfl rfl ?_
   refine iB X109 hx hby d23_53 (z := 32) rfl ?_
   refine iN X109 hx hby d23_55 rfl ?_
   refine iS X109 hx hby d23_56 ?_
   obtain ⟨v111, T111, L111, X111, hQ111, st111⟩ := cP X109 hx hZ hown (tw277 hw) (tw278 hw) (tw280 hw) (tw279 hw) (tw102 hw) (tw281 hw) (rmpl22 l Z a0 hw [] a1 ((32 : Int32) - nb) va w0 w1 h103 n0 (lw Z0 W103) (E_a1.wr W103) f104 f105 f106 (A_va.other W103 ne_a1_va.symm) g_va ne_a1_va) (W := 0) e109 (E_a1.wr W103) (g := (mkF m 57 #[vr a1, vi p2, vi 0, vi nb, vi (F24 w0)] [(.int ((32 : Int32) - nb)), (.ref a1)])) rfl hml rfl (argsL := [(.int ((32 : Int32) - nb))]) (rest := []) (lenOf pd_5 rfl) rfl rfl rfl (hb hby d23_57) rfl
   refine Done.far st111 ?_
   obtain ⟨rfl, N111q, K111q, x111⟩ := hQ111
   have Kk111 := ((kr h0 [a1, va]).wr W103 (Or.inl me0)).trans K111q (allS (Or.inl me1) all0)
   show Aq T111 60 #[vr a1, vi p2, vi 0, vi nb, vi (F24 w0)] []
   refine aN X111 hx hby d23_60 rfl rfl ?_
   refine dU X111 hx hby d23_61 rfl ?_
   obtain ⟨T112, X112, e112, st112⟩ := gF X111 hx hZ hown (tw112 hw) rfl (f105.keep K111q (ni1 ne_a1_va)) (g := (mkF m 62 #[vr a1, vi p2, vi 0, vi nb, vi (F24 w0)] [(.ref a1), (.ref a1)])) rfl rfl (hb hby d23_62)
   refine dS st112 ?_
   show Aq T112 65 #[vr a1, vi p2, vi 0, vi nb, vi (F24 w0)] [(.int 2), (.ref a1)]
   refine iC X112 hx hby d23_65 (z := 1) rfl ?_
   refine iS X112 hx hby d23_66 ?_
   rw [show ((2 : Int32) - (1 : Int32)) = (1 : Int32) from by decide]
   obtain ⟨T113, h113, X113, e113, W113, st113⟩ := putF X112 hx hZ hown (host := "") (Or.inl (tw112 hw)) Via.refl e112 (f105.keep K111q (ni1 ne_a1_va)) ((E_a1.wr W103).keep K111q) (Or.inl (tw113 hw)) (tw101 hw) (ty := .int) (by decide) rfl rfl (g := (mkF m 67 #[vr a1, vi p2, vi 0, vi nb, vi (F24 w0)] [(.int 1), (.ref a1)])) rfl rfl (hb hby d23_67)
   have f114 := (f104.keep K111q (ni1 ne_a1_va)).other W113 (Or.inr (sq4 hw))
   have f115 := (f105.keep K111q (ni1 ne_a1_va)).same W113
   have f116 := (f106.keep K111q (ni1 ne_a1_va)).other W113 (Or.inr (sq5 hw))
   refine dS st113 ?_
   show Aq T113 70 #[vr a1, vi p2, vi 0, vi nb, vi (F24 w0)] []
   refine gO X113 hx hby d23_70 (pc' := 78) (H := ?_)
   exact Done.void X113 hx hlk hret (hb hby d23_78) (by decide) (by decide) ⟨((w0 <<< (((32 : Int32) - nb) &&& 31)) ||| ((w1.toUInt32 >>> (((32 : Int32) - ((32 : Int32) - nb)) &&& 31).toUInt32).toInt32)), (w1 <<< (((32 : Int32) - nb) &&& 31)), rfl, (Fr.snoc X113 (Fr.app N109 N111q) g_a1), (by rw [e113]; exact ⟨(Kk111.wr W113 (Or.inl me0)), (((E_a1.wr W103).keep K111q).wr W113), f114, f116, (x111.other W113 ne_a1_va.symm), (Or.inr ⟨f115, own_rsL hnb ht hodd⟩)⟩)⟩
theorem rs22b (l : Launch) (Z : State) (a0 : Array Value) (hw : HH a0 Z) (ws : List Jvm.Cond) (a1 : Addr) (p2 : Int32) (va : Addr) (w0 w1 nb : Int32) (t : Nat) (h0 : Heap) (n0 : Nat) (Z0 : n0 ≤ h0.size) (E_a1 : Fl3 Z h0 a1) (F_a1_value : Fl0 Z h0 a1 (.ref va)) (F_a1_intLen : Fl1 Z h0 a1 (.int 2)) (F_a1_offset : Fl2 Z h0 a1 (.int 0)) (A_va : Ax Z h0 va .int [(.int w0), (.int w1)]) (g_a1 : n0 ≤ a1) (g_va : n0 ≤ va) (ne_a1_va : a1 ≠ va) (h5 : ((p2.toUInt32 >>> ((5 : Int32) &&& 31).toUInt32).toInt32) = (1 : Int32)) (h31 : (p2 &&& (31 : Int32)) = nb) (hnb : nb = Int32.ofNat t) (ht : t < 32) (hle : 2 ^ t ≤ U w0) (hwu : 1 ≤ U w0) : MF l "java/math/MutableBigInteger" "rightShift" "(I)V" jdk_2101_method_35_code 5 none ws ⟨2, 0, 0, 26⟩ Z h0 #[(.ref a1), (.int p2)] (fun v h L => ∃ (A0 : Int32), v = none ∧ Fr n0 L ∧ Keep h0 h [a1, va] ∧ Fl3 Z h a1 ∧ Fl0 Z h a1 (.ref va) ∧ Fl1 Z h a1 (.int 1) ∧ Fl2 Z h a1 (.int 0) ∧ Ax Z h va .int [(.int A0), (.int w1)] ∧ (¬ A0 = (0 : Int32))) := by
 refine own_body (n0 := n0) (plainFor_of_name pn_27) (fun m => ef_23 m a1 p2) ?_
 intro p e s m below meth c s₁ hZ hx hby hml hown hlk hret hnm X0 e0 N0
 have hnt : nb.toInt = (t : Int) := by rw [hnb]; exact (own_f32 ⟨t, ht⟩).1
 show Aq s₁ 0 #[vr a1, vi p2, vu, vu, vu] []
 refine aN X0 hx hby d23_0 rfl rfl ?_
 obtain ⟨T101, X101, e101, st101⟩ := gF X0 hx hZ hown (tw112 hw) e0 F_a1_intLen (g := (mkF m 1 #[vr a1, vi p2, vu, vu, vu] [(.ref a1)])) rfl rfl (hb hby d23_1)
 refine dS st101 ?_
 show Aq T101 4 #[vr a1, vi p2, vu, vu, vu] [(.int 2)]
 refine iY X101 hx hby d23_4 (pc' := 8) ((if0 _ _).trans (feq (by decide)).2) (H := ?_)
 refine iN X101 hx hby d23_8 rfl ?_
 refine iC X101 hx hby d23_9 (z := 5) rfl ?_
 refine iU X101 hx hby d23_10 ?_
 rw [show ((p2.toUInt32 >>> ((5 : Int32) &&& 31).toUInt32).toInt32) = (1 : Int32) from h5]
 refine sN X101 hx hby d23_11 (l' := #[vr a1, vi p2, vi 1, vu, vu]) rfl ?_
 refine iN X101 hx hby d23_12 rfl ?_
 refine iB X101 hx hby d23_13 (z := 31) rfl ?_
 refine dS (fun t k => XS.iand X101.here hx rfl (hb hby d23_15) rfl k) ?_
 show Aq T101 16 #[vr a1, vi p2, vi 1, vu, vu] [(.int (p2 &&& (31 : Int32)))]
 rw [show (p2 &&& (31 : Int32)) = nb from h31]
 show Aq T101 16 #[vr a1, vi p2, vi 1, vu, vu] [(.int nb)]
 refine sN X101 hx hby d23_16 (l' := #[vr a1, vi p2, vi 1, vi nb, vu]) rfl ?_
 refine aN X101 hx hby d23_17 rfl rfl ?_
 refine dU X101 hx hby d23_18 rfl ?_
 obtain ⟨T102, X102, e102, st102⟩ := gF X101 hx hZ hown (tw112 hw) e101 F_a1_intLen (g := (mkF m 19 #[vr a1, vi p2, vi 1, vi nb, vu] [(.ref a1), (.ref a1)])) rfl rfl (hb hby d23_19)
 refine dS st102 ?_
 show Aq T102 22 #[vr a1, vi p2, vi 1, vi nb, vu] [(.int 2), (.ref a1)]
 refine iN X102 hx hby d23_22 rfl ?_
 refine iS X102 hx hby d23_23 ?_
 rw [show ((2 : Int32) - (1 : Int32)) = (1 : Int32) from by decide]
 obtain ⟨T103, h103, X103, e103, W103, st103⟩ := putF X102 hx hZ hown (host := "") (Or.inl (tw112 hw)) Via.refl e102 F_a1_intLen E_a1 (Or.inl (tw113 hw)) (tw101 hw) (ty := .int) (by decide) rfl rfl (g := (mkF m 24 #[vr a1, vi p2, vi 1, vi nb, vu] [(.int 1), (.ref a1)])) rfl rfl (hb hby d23_24)
 have f104 := F_a1_value.other W103 (Or.inr (sq4 hw))
 have f105 := F_a1_intLen.same W103
 have f106 := F_a1_offset.other W103 (Or.inr (sq5 hw))
 refine dS st103 ?_
 show Aq T103 27 #[vr a1, vi p2, vi 1, vi nb, vu] []
 refine iN X103 hx hby d23_27 rfl ?_
 by_cases c1 : nb = (0 : Int32)
 ·refine iF X103 hx hby d23_28 ((if0 _ _).trans (teq c1).2) ?_
  exact Done.void X103 hx hlk hret (hb hby d23_31) (by decide) (by decide) ⟨w0, rfl, (Fr.snoc X103 N0 g_a1), (by rw [e103]; exact ⟨((kr h0 [a1, va]).wr W103 (Or.inl me0)), (E_a1.wr W103), f104, f105, f106, (A_va.other W103 ne_a1_va.symm), (own_neu hwu)⟩)⟩
 ·refine iY X103 hx hby d23_28 (pc' := 32) ((if0 _ _).trans (feq c1).2) (H := ?_)
  refine aN X103 hx hby d23_32 rfl rfl ?_
  obtain ⟨T107, X107, e107, st107⟩ := gF X103 hx hZ hown (tw127 hw) e103 f104 (g := (mkF m 33 #[vr a1, vi p2, vi 1, vi nb, vu] [(.ref a1)])) rfl rfl (hb hby d23_33)
  refine dS st107 ?_
  show Aq T107 36 #[vr a1, vi p2, vi 1, vi nb, vu] [(.ref va)]
  refine aN X107 hx hby d23_36 rfl rfl ?_
  obtain ⟨T108, X108, e108, st108⟩ := gF X107 hx hZ hown (tw108 hw) e107 f106 (g := (mkF m 37 #[vr a1, vi p2, vi 1, vi nb, vu] [(.ref a1), (.ref va)])) rfl rfl (hb hby d23_37)
  refine dS st108 ?_
  show Aq T108 40 #[vr a1, vi p2, vi 1, vi nb, vu] [(.int 0), (.ref va)]
  refine dS (ldI X108 hx hZ e108 (A_va.other W103 ne_a1_va.symm) (j := (0 : Int32)) (x := (.int w0)) (by decide) rfl (g := (mkF m 40 #[vr a1, vi p2, vi 1, vi nb, vu] [(.int 0), (.ref va)])) rfl rfl (hb hby d23_40)) ?_
  show Aq T108 41 #[vr a1, vi p2, vi 1, vi nb, vu] [(.int w0)]
  obtain ⟨v109, T109, L109, X109, hQ109, st109⟩ := cS X108 hx hZ hown (tw162 hw) (tw163 hw) (tw81 hw) (tw164 hw) (rm24 l Z a0 hw [] w0 h103 n0 (lw Z0 W103) ) (W := 0) e108 (g := (mkF m 41 #[vr a1, vi p2, vi 1, vi nb, vu] [(.int w0)])) rfl hml rfl (argsL := [(.int w0)]) (rest := []) (lenOf pd_0 rfl) rfl rfl rfl (hb hby d23_41) rfl
  refine dS st109 ?_
  obtain ⟨rfl, N109q, e109⟩ := hQ109
  have N109 := Fr.app (Fr.snoc X103 N0 g_a1) N109q
  show Aq T109 44 #[vr a1, vi p2, vi 1, vi nb, vu] [(.int (F24 w0))]
  refine sL X109 hx hby d23_44 (l' := #[vr a1, vi p2, vi 1, vi nb, vi (F24 w0)]) rfl ?_
  refine iN X109 hx hby d23_46 rfl ?_
  refine iL X109 hx hby d23_47 rfl ?_
  refine cY X109 hx hby d23_49 (pc' := 73) (tlt ((own_bl hwu hnt ht).mpr hle)).1 (H := ?_)
  refine aN X109 hx hby d23_73 rfl rfl ?_
  refine iN X109 hx hby d23_74 rfl ?_
  obtain ⟨v110, T110, L110, X110, hQ110, st110⟩ := cP X109 hx hZ hown (tw168 hw) (tw169 hw) (tw171 hw) (tw170 hw) (tw102 hw) (tw172 hw) (rmpr12 l Z a0 hw [] a1 nb va w0 w1 h103 n0 (lw Z0 W103) (E_a1.wr W103) f104 f105 f106 (A_va.other W103 ne_a1_va.symm) g_va ne_a1_va) (W := 0) e109 (E_a1.wr W103) (g := (mkF m 75 #[vr a1, vi p2, vi 1, vi nb, vi (F24 w0)] [(.int nb), (.ref a1)])) rfl hml rfl (argsL := [(.int nb)]) (rest := []) (lenOf pd_5 rfl) rfl rfl rfl (hb hby d23_75) rfl
  refine Done.far st110 ?_
  obtain ⟨rfl, N110q, K110q, x110⟩ := hQ110
  have Kk110 := ((kr h0 [a1, va]).wr W103 (Or.inl me0)).trans K110q (allS (Or.inl me1) all0)
  show Aq T110 78 #[vr a1, vi p2, vi 1, vi nb, vi (F24 w0)] []
  exact Done.void X110 hx hlk hret (hb hby d23_78) (by decide) (by decide) ⟨((w0.toUInt32 >>> (nb &&& 31).toUInt32).toInt32), rfl, (Fr.app N109 N110q), ⟨Kk110, ((E_a1.wr W103).keep K110q), (f104.keep K110q (ni1 ne_a1_va)), (f105.keep K110q (ni1 ne_a1_va)), (f106.keep K110q (ni1 ne_a1_va)), x110, (own_shne hnb ht hle)⟩⟩
theorem d44_0 : dq cd20 0 (.aload_n 0) 1 := by decide +kernel
theorem d44_1 : dq cd20 1 (.astore_n 2) 1 := by decide +kernel
theorem d44_2 : dq cd20 2 (.aload_n 2) 1 := by decide +kernel
theorem d44_3 : dq cd20 3 (.aload_n 1) 1 := by decide +kernel
theorem d44_4 : dq cd20 4 (.invokevirtual 142) 3 := by decide +kernel
theorem d44_7 : dq cd20 7 (.istore_n 3) 1 := by decide +kernel
theorem d44_8 : dq cd20 8 (.iload_n 3) 1 := by decide +kernel
theorem d44_9 : dq cd20 9 (.ifCond .ne 5) 3 := by decide +kernel
theorem d44_14 : dq cd20 14 (.iload_n 3) 1 := by decide +kernel
theorem d44_15 : dq cd20 15 (.ifCond .ge 11) 3 := by decide +kernel
theorem d44_26 : dq cd20 26 (.lconst 0) 1 := by decide +kernel
theorem d44_27 : dq cd20 27 (.lstore 4) 2 := by decide +kernel
theorem d44_29 : dq cd20 29 (.aload_n 2) 1 := by decide +kernel
theorem d44_30 : dq cd20 30 (.getfield 21) 3 := by decide +kernel
theorem d44_33 : dq cd20 33 (.istore 6) 2 := by decide +kernel
theorem d44_35 : dq cd20 35 (.aload_n 1) 1 := by decide +kernel
theorem d44_36 : dq cd20 36 (.getfield 21) 3 := by decide +kernel
theorem d44_39 : dq cd20 39 (.istore 7) 2 := by decide +kernel
theorem d44_41 : dq cd20 41 (.iload 7) 2 := by decide +kernel
theorem d44_43 : dq cd20 43 (.ifCond .le 70) 3 := by decide +kernel
theorem d44_46 : dq cd20 46 (.iinc 6 (-1)) 3 := by decide +kernel
theorem d44_49 : dq cd20 49 (.iinc 7 (-1)) 3 := by decide +kernel
theorem d44_52 : dq cd20 52 (.aload_n 2) 1 := by decide +kernel
theorem d44_53 : dq cd20 53 (.getfield 17) 3 := by decide +kernel
theorem d44_56 : dq cd20 56 (.aload_n 2) 1 := by decide +kernel
theorem d44_57 : dq cd20 57 (.getfield 11) 3 := by decide +kernel
theorem d44_60 : dq cd20 60 (.iload 6) 2 := by decide +kernel
theorem d44_62 : dq cd20 62 .iadd 1 := by decide +kernel
theorem d44_63 : dq cd20 63 .iaload 1 := by decide +kernel
theorem d44_64 : dq cd20 64 .i2l 1 := by decide +kernel
theorem d44_65 : dq cd20 65 (.ldc2_w 52) 3 := by decide +kernel
theorem d44_68 : dq cd20 68 .land 1 := by decide +kernel
theorem d44_69 : dq cd20 69 (.aload_n 1) 1 := by decide +kernel
theorem d44_70 : dq cd20 70 (.getfield 17) 3 := by decide +kernel
theorem d44_73 : dq cd20 73 (.aload_n 1) 1 := by decide +kernel
theorem d44_74 : dq cd20 74 (.getfield 11) 3 := by decide +kernel
theorem d44_77 : dq cd20 77 (.iload 7) 2 := by decide +kernel
theorem d44_79 : dq cd20 79 .iadd 1 := by decide +kernel
theorem d44_80 : dq cd20 80 .iaload 1 := by decide +kernel
theorem d44_81 : dq cd20 81 .i2l 1 := by decide +kernel
theorem d44_82 : dq cd20 82 (.ldc2_w 52) 3 := by decide +kernel
theorem d44_85 : dq cd20 85 .land 1 := by decide +kernel
theorem d44_86 : dq cd20 86 .lsub 1 := by decide +kernel
theorem d44_87 : dq cd20 87 (.lload 4) 2 := by decide +kernel
theorem d44_89 : dq cd20 89 (.bipush 32) 2 := by decide +kernel
theorem d44_91 : dq cd20 91 .lshr 1 := by decide +kernel
theorem d44_92 : dq cd20 92 .ladd 1 := by decide +kernel
theorem d44_93 : dq cd20 93 (.lstore 4) 2 := by decide +kernel
theorem d44_95 : dq cd20 95 (.aload_n 2) 1 := by decide +kernel
theorem d44_96 : dq cd20 96 (.getfield 17) 3 := by decide +kernel
theorem d44_99 : dq cd20 99 (.aload_n 2) 1 := by decide +kernel
theorem d44_100 : dq cd20 100 (.getfield 11) 3 := by decide +kernel
theorem d44_103 : dq cd20 103 (.iload 6) 2 := by decide +kernel
theorem d44_105 : dq cd20 105 .iadd 1 := by decide +kernel
theorem d44_106 : dq cd20 106 (.lload 4) 2 := by decide +kernel
theorem d44_108 : dq cd20 108 .l2i 1 := by decide +kernel
theorem d44_109 : dq cd20 109 .iastore 1 := by decide +kernel
theorem d44_110 : dq cd20 110 (.goto (-69)) 3 := by decide +kernel
theorem d44_113 : dq cd20 113 (.lload 4) 2 := by decide +kernel
theorem d44_115 : dq cd20 115 (.lconst 0) 1 := by decide +kernel
theorem d44_116 : dq cd20 116 .lcmp 1 := by decide +kernel
theorem d44_117 : dq cd20 117 (.ifCond .ge 54) 3 := by decide +kernel
theorem d44_171 : dq cd20 171 (.aload_n 2) 1 := by decide +kernel
theorem d44_172 : dq cd20 172 (.invokevirtual 64) 3 := by decide +kernel
theorem d44_175 : dq cd20 175 (.iload_n 3) 1 := by decide +kernel
theorem d44_176 : dq cd20 176 .ireturn 1 := by decide +kernel
theorem ef_44 (m : MethodId) (a1 : Addr) (a2 : Addr) : entryFrame m #[(.ref a1), (.ref a2)] 8 = mkF m 0 #[.val (.ref a1), .val (.ref a2), .unset, .unset, .unset, .unset, .unset, .unset] [] := by first | (simp [entryFrame, mkF, argsToLocals, Value.category]; done) | rfl
theorem dif (l : Launch) (Z : State) (a0 : Array Value) (hw : HH a0 Z) (ws : List Jvm.Cond) (a1 a2 va : Addr) (w0 w1 : Int32) (vb : Addr) (h0 : Heap) (n0 : Nat) (Z0 : n0 ≤ h0.size) (E_a1 : Fl3 Z h0 a1) (F_a1_value : Fl0 Z h0 a1 (.ref va)) (F_a1_intLen : Fl1 Z h0 a1 (.int 2)) (F_a1_offset : Fl2 Z h0 a1 (.int 0)) (A_va : Ax Z h0 va .int [(.int w0), (.int w1)]) (E_a2 : Fl3 Z h0 a2) (F_a2_value : Fl0 Z h0 a2 (.ref vb)) (F_a2_intLen : Fl1 Z h0 a2 (.int 1)) (F_a2_offset : Fl2 Z h0 a2 (.int 0)) (A_vb : Ax Z h0 vb .int [(.int 1)]) (g_va : n0 ≤ va) (ne_a1_va : a1 ≠ va) (ne_a2_va : a2 ≠ va) (ne_vb_va : vb ≠ va) (hw0 : ¬ w0 = (0 : Int32)) (hodd : U w1 % 2 = 1) : MF l "java/math/MutableBigInteger" "difference" "(Ljava/math/MutableBigInteger;)I" jdk_2101_method_50_code 8 (some .int) ws ⟨1, 0, 0, 19⟩ Z h0 #[(.ref a1), (.ref a2)] (fun v h L => v = some (.int 1) ∧ Fr n0 L ∧ Keep h0 h [va] ∧ Ax Z h va .int [(.int w0), (.int (w1 - (1 : Int32)))]) := by
 refine own_body (n0 := n0) (plainFor_of_name pn_27) (fun m => ef_44 m a1 a2) ?_
 intro p e s m below meth c s₁ hZ hx hby hml hown hlk hret hnm X0 e0 N0
 show Aq s₁ 0 #[vr a1, vr a2, vu, vu, vu, vu, vu, vu] []
 refine aN X0 hx hby d44_0 rfl rfl ?_
 refine aT X0 hx hby d44_1 rfl (l' := #[vr a1, vr a2, vr a1, vu, vu, vu, vu, vu]) rfl ?_
 refine aN X0 hx hby d44_2 rfl rfl ?_
 refine aN X0 hx hby d44_3 rfl rfl ?_
 obtain ⟨v101, T101, L101, X101, hQ101, st101⟩ := cV X0 hx hZ hown (tw222 hw) (tw223 hw) (tw225 hw) (tw224 hw) (tw102 hw) (tw226 hw) (cmp21 l Z a0 hw [] a1 a2  h0 n0 Z0 F_a1_intLen F_a2_intLen) (W := 0) e0 E_a1 (g := (mkF m 4 #[vr a1, vr a2, vr a1, vu, vu, vu, vu, vu] [(.ref a2), (.ref a1)])) rfl hml rfl (argsL := [(.ref a2)]) (rest := []) (lenOf pd_6 rfl) rfl rfl rfl (hb hby d44_4) rfl
 refine Done.far st101 ?_
 obtain ⟨rfl, N101q, K101q⟩ := hQ101
 show Aq T101 7 #[vr a1, vr a2, vr a1, vu, vu, vu, vu, vu] [(.int 1)]
 refine sN X101 hx hby d44_7 (l' := #[vr a1, vr a2, vr a1, vi 1, vu, vu, vu, vu]) rfl ?_
 refine iN X101 hx hby d44_8 rfl ?_
 refine iY X101 hx hby d44_9 (pc' := 14) ((if0 _ _).trans (feq (by decide)).2) (H := ?_)
 refine iN X101 hx hby d44_14 rfl ?_
 refine iY X101 hx hby d44_15 (pc' := 26) ((if0 _ _).trans (flt (by decide)).2.1) (H := ?_)
 refine dS (fun t k => XS.lconst X101.here hx rfl (hb hby d44_26) k) ?_
 show Aq T101 27 #[vr a1, vr a2, vr a1, vi 1, vu, vu, vu, vu] [(.long 0)]
 refine dS (fun t k => XS.lstore X101.here hx rfl (hb hby d44_27) rfl (l' := #[vr a1, vr a2, vr a1, vi 1, vj 0, vz, vu, vu]) rfl k) ?_
 show Aq T101 29 #[vr a1, vr a2, vr a1, vi 1, vj 0, vz, vu, vu] []
 refine aN X101 hx hby d44_29 rfl rfl ?_
 obtain ⟨T102, X102, e102, st102⟩ := gF X101 hx hZ hown (tw112 hw) rfl (F_a1_intLen.keep K101q nin0) (g := (mkF m 30 #[vr a1, vr a2, vr a1, vi 1, vj 0, vz, vu, vu] [(.ref a1)])) rfl rfl (hb hby d44_30)
 refine dS st102 ?_
 show Aq T102 33 #[vr a1, vr a2, vr a1, vi 1, vj 0, vz, vu, vu] [(.int 2)]
 refine sL X102 hx hby d44_33 (l' := #[vr a1, vr a2, vr a1, vi 1, vj 0, vz, vi 2, vu]) rfl ?_
 refine aN X102 hx hby d44_35 rfl rfl ?_
 obtain ⟨T103, X103, e103, st103⟩ := gF X102 hx hZ hown (tw112 hw) e102 (F_a2_intLen.keep K101q nin0) (g := (mkF m 36 #[vr a1, vr a2, vr a1, vi 1, vj 0, vz, vi 2, vu] [(.ref a2)])) rfl rfl (hb hby d44_36)
 refine dS st103 ?_
 show Aq T103 39 #[vr a1, vr a2, vr a1, vi 1, vj 0, vz, vi 2, vu] [(.int 1)]
 refine sL X103 hx hby d44_39 (l' := #[vr a1, vr a2, vr a1, vi 1, vj 0, vz, vi 2, vi 1]) rfl ?_
 refine iL X103 hx hby d44_41 rfl ?_
 refine iF X103 hx hby d44_43 ((if0 _ _).trans (tlt (by decide)).2.2.2) ?_
 refine dS (fun t k => XS.iinc X103.here hx rfl (hb hby d44_46) rfl (l' := #[vr a1, vr a2, vr a1, vi 1, vj 0, vz, vi ((2 : Int32) + (-1 : Int32)), vi 1]) rfl k) ?_
 show Aq T103 49 #[vr a1, vr a2, vr a1, vi 1, vj 0, vz, vi ((2 : Int32) + (-1 : Int32)), vi 1] []
 rw [show ((2 : Int32) + (-1 : Int32)) = (1 : Int32) from by decide]
 show Aq T103 49 #[vr a1, vr a2, vr a1, vi 1, vj 0, vz, vi 1, vi 1] []
 refine dS (fun t k => XS.iinc X103.here hx rfl (hb hby d44_49) rfl (l' := #[vr a1, vr a2, vr a1, vi 1, vj 0, vz, vi 1, vi ((1 : Int32) + (-1 : Int32))]) rfl k) ?_
 show Aq T103 52 #[vr a1, vr a2, vr a1, vi 1, vj 0, vz, vi 1, vi ((1 : Int32) + (-1 : Int32))] []
 rw [show ((1 : Int32) + (-1 : Int32)) = (0 : Int32) from by decide]
 show Aq T103 52 #[vr a1, vr a2, vr a1, vi 1, vj 0, vz, vi 1, vi 0] []
 refine aN X103 hx hby d44_52 rfl rfl ?_
 obtain ⟨T104, X104, e104, st104⟩ := gF X103 hx hZ hown (tw127 hw) e103 (F_a1_value.keep K101q nin0) (g := (mkF m 53 #[vr a1, vr a2, vr a1, vi 1, vj 0, vz, vi 1, vi 0] [(.ref a1)])) rfl rfl (hb hby d44_53)
 refine dS st104 ?_
 show Aq T104 56 #[vr a1, vr a2, vr a1, vi 1, vj 0, vz, vi 1, vi 0] [(.ref va)]
 refine aN X104 hx hby d44_56 rfl rfl ?_
 obtain ⟨T105, X105, e105, st105⟩ := gF X104 hx hZ hown (tw108 hw) e104 (F_a1_offset.keep K101q nin0) (g := (mkF m 57 #[vr a1, vr a2, vr a1, vi 1, vj 0, vz, vi 1, vi 0] [(.ref a1), (.ref va)])) rfl rfl (hb hby d44_57)
 refine dS st105 ?_
 show Aq T105 60 #[vr a1, vr a2, vr a1, vi 1, vj 0, vz, vi 1, vi 0] [(.int 0), (.ref va)]
 refine iL X105 hx hby d44_60 rfl ?_
 refine iA X105 hx hby d44_62 ?_
 rw [show ((0 : Int32) + (1 : Int32)) = (1 : Int32) from by decide]
 refine dS (ldI X105 hx hZ e105 (A_va.keep K101q nin0) (j := (1 : Int32)) (x := (.int w1)) (by decide) rfl (g := (mkF m 63 #[vr a1, vr a2, vr a1, vi 1, vj 0, vz, vi 1, vi 0] [(.int 1), (.ref va)])) rfl rfl (hb hby d44_63)) ?_
 show Aq T105 64 #[vr a1, vr a2, vr a1, vi 1, vj 0, vz, vi 1, vi 0] [(.int w1)]
 refine dS (fun t k => XS.i2l X105.here hx rfl (hb hby d44_64) rfl k) ?_
 show Aq T105 65 #[vr a1, vr a2, vr a1, vi 1, vj 0, vz, vi 1, vi 0] [(.long (w1).toInt64)]
 refine dS (X105.ldc2Long hx hown (mvT hZ (tw238 hw)) (g := (mkF m 65 #[vr a1, vr a2, vr a1, vi 1, vj 0, vz, vi 1, vi 0] [(.long (w1).toInt64)])) rfl (hb hby d44_65)) ?_
 show Aq T105 68 #[vr a1, vr a2, vr a1, vi 1, vj 0, vz, vi 1, vi 0] [(.long 4294967295), (.long (w1).toInt64)]
 refine dS (fun t k => XS.land X105.here hx rfl (hb hby d44_68) rfl k) ?_
 show Aq T105 69 #[vr a1, vr a2, vr a1, vi 1, vj 0, vz, vi 1, vi 0] [(.long ((w1).toInt64 &&& (4294967295 : Int64)))]
 refine aN X105 hx hby d44_69 rfl rfl ?_
 obtain ⟨T106, X106, e106, st106⟩ := gF X105 hx hZ hown (tw127 hw) e105 (F_a2_value.keep K101q nin0) (g := (mkF m 70 #[vr a1, vr a2, vr a1, vi 1, vj 0, vz, vi 1, vi 0] [(.ref a2), (.long ((w1).toInt64 &&& (4294967295 : Int64)))])) rfl rfl (hb hby d44_70)
 refine dS st106 ?_
 show Aq T106 73 #[vr a1, vr a2, vr a1, vi 1, vj 0, vz, vi 1, vi 0] [(.ref vb), (.long ((w1).toInt64 &&& (4294967295 : Int64)))]
 refine aN X106 hx hby d44_73 rfl rfl ?_
 obtain ⟨T107, X107, e107, st107⟩ := gF X106 hx hZ hown (tw108 hw) e106 (F_a2_offset.keep K101q nin0) (g := (mkF m 74 #[vr a1, vr a2, vr a1, vi 1, vj 0, vz, vi 1, vi 0] [(.ref a2), (.ref vb), (.long ((w1).toInt64 &&& (4294967295 : Int64)))])) rfl rfl (hb hby d44_74)
 refine dS st107 ?_
 show Aq T107 77 #[vr a1, vr a2, vr a1, vi 1, vj 0, vz, vi 1, vi 0] [(.int 0), (.ref vb), (.long ((w1).toInt64 &&& (4294967295 : Int64)))]
 refine iL X107 hx hby d44_77 rfl ?_
 refine iA X107 hx hby d44_79 ?_
 rw [show ((0 : Int32) + (0 : Int32)) = (0 : Int32) from by decide]
 refine dS (ldI X107 hx hZ e107 (A_vb.keep K101q nin0) (j := (0 : Int32)) (x := (.int 1)) (by decide) rfl (g := (mkF m 80 #[vr a1, vr a2, vr a1, vi 1, vj 0, vz, vi 1, vi 0] [(.int 0), (.ref vb), (.long ((w1).toInt64 &&& (4294967295 : Int64)))])) rfl rfl (hb hby d44_80)) ?_
 show Aq T107 81 #[vr a1, vr a2, vr a1, vi 1, vj 0, vz, vi 1, vi 0] [(.int 1), (.long ((w1).toInt64 &&& (4294967295 : Int64)))]
 refine dS (fun t k => XS.i2l X107.here hx rfl (hb hby d44_81) rfl k) ?_
 show Aq T107 82 #[vr a1, vr a2, vr a1, vi 1, vj 0, vz, vi 1, vi 0] [(.long ((1 : Int32)).toInt64), (.long ((w1).toInt64 &&& (4294967295 : Int64)))]
 refine dS (X107.ldc2Long hx hown (mvT hZ (tw238 hw)) (g := (mkF m 82 #[vr a1, vr a2, vr a1, vi 1, vj 0, vz, vi 1, vi 0] [(.long ((1 : Int32)).toInt64), (.long ((w1).toInt64 &&& (4294967295 : Int64)))])) rfl (hb hby d44_82)) ?_
 show Aq T107 85 #[vr a1, vr a2, vr a1, vi 1, vj 0, vz, vi 1, vi 0] [(.long 4294967295), (.long ((1 : Int32)).toInt64), (.long ((w1).toInt64 &&& (4294967295 : Int64)))]
 refine dS (fun t k => XS.land X107.here hx rfl (hb hby d44_85) rfl k) ?_
 show Aq T107 86 #[vr a1, vr a2, vr a1, vi 1, vj 0, vz, vi 1, vi 0] [(.long (((1 : Int32)).toInt64 &&& (4294967295 : Int64))), (.long ((w1).toInt64 &&& (4294967295 : Int64)))]
 rw [show (((1 : Int32)).toInt64 &&& (4294967295 : Int64)) = (1 : Int64) from (by decide)]
 show Aq T107 86 #[vr a1, vr a2, vr a1, vi 1, vj 0, vz, vi 1, vi 0] [(.long 1), (.long ((w1).toInt64 &&& (4294967295 : Int64)))]
 refine dS (fun t k => XS.lsub X107.here hx rfl (hb hby d44_86) rfl k) ?_
 show Aq T107 87 #[vr a1, vr a2, vr a1, vi 1, vj 0, vz, vi 1, vi 0] [(.long (((w1).toInt64 &&& (4294967295 : Int64)) - (1 : Int64)))]
 refine jL X107 hx hby d44_87 rfl ?_
 refine iB X107 hx hby d44_89 (z := 32) rfl ?_
 refine dS (fun t k => XS.lshr X107.here hx rfl (hb hby d44_91) rfl k) ?_
 show Aq T107 92 #[vr a1, vr a2, vr a1, vi 1, vj 0, vz, vi 1, vi 0] [(.long ((0 : Int64) >>> ((32 : Int32) &&& 0x3f).toInt64)), (.long (((w1).toInt64 &&& (4294967295 : Int64)) - (1 : Int64)))]
 rw [show ((0 : Int64) >>> ((32 : Int32) &&& 0x3f).toInt64) = (0 : Int64) from (by decide)]
 show Aq T107 92 #[vr a1, vr a2, vr a1, vi 1, vj 0, vz, vi 1, vi 0] [(.long 0), (.long (((w1).toInt64 &&& (4294967295 : Int64)) - (1 : Int64)))]
 refine dS (fun t k => XS.ladd X107.here hx rfl (hb hby d44_92) rfl k) ?_
 show Aq T107 93 #[vr a1, vr a2, vr a1, vi 1, vj 0, vz, vi 1, vi 0] [(.long ((((w1).toInt64 &&& (4294967295 : Int64)) - (1 : Int64)) + (0 : Int64)))]
 refine dS (fun t k => XS.lstore X107.here hx rfl (hb hby d44_93) rfl (l' := #[vr a1, vr a2, vr a1, vi 1, vj ((((w1).toInt64 &&& (4294967295 : Int64)) - (1 : Int64)) + (0 : Int64)), vz, vi 1, vi 0]) rfl k) ?_
 show Aq T107 95 #[vr a1, vr a2, vr a1, vi 1, vj ((((w1).toInt64 &&& (4294967295 : Int64)) - (1 : Int64)) + (0 : Int64)), vz, vi 1, vi 0] []
 refine aN X107 hx hby d44_95 rfl rfl ?_
 obtain ⟨T108, X108, e108, st108⟩ := gF X107 hx hZ hown (tw127 hw) e107 (F_a1_value.keep K101q nin0) (g := (mkF m 96 #[vr a1, vr a2, vr a1, vi 1, vj ((((w1).toInt64 &&& (4294967295 : Int64)) - (1 : Int64)) + (0 : Int64)), vz, vi 1, vi 0] [(.ref a1)])) rfl rfl (hb hby d44_96)
 refine dS st108 ?_
 show Aq T108 99 #[vr a1, vr a2, vr a1, vi 1, vj ((((w1).toInt64 &&& (4294967295 : Int64)) - (1 : Int64)) + (0 : Int64)), vz, vi 1, vi 0] [(.ref va)]
 refine aN X108 hx hby d44_99 rfl rfl ?_
 obtain ⟨T109, X109, e109, st109⟩ := gF X108 hx hZ hown (tw108 hw) e108 (F_a1_offset.keep K101q nin0) (g := (mkF m 100 #[vr a1, vr a2, vr a1, vi 1, vj ((((w1).toInt64 &&& (4294967295 : Int64)) - (1 : Int64)) + (0 : Int64)), vz, vi 1, vi 0] [(.ref a1), (.ref va)])) rfl rfl (hb hby d44_100)
 refine dS st109 ?_
 show Aq T109 103 #[vr a1, vr a2, vr a1, vi 1, vj ((((w1).toInt64 &&& (4294967295 : Int64)) - (1 : Int64)) + (0 : Int64)), vz, vi 1, vi 0] [(.int 0), (.ref va)]
 refine iL X109 hx hby d44_103 rfl ?_
 refine iA X109 hx hby d44_105 ?_
 rw [show ((0 : Int32) + (1 : Int32)) = (1 : Int32) from by decide]
 refine jL X109 hx hby d44_106 rfl ?_
 refine dS (fun t k => XS.l2i X109.here hx rfl (hb hby d44_108) rfl k) ?_
 show Aq T109 109 #[vr a1, vr a2, vr a1, vi 1, vj ((((w1).toInt64 &&& (4294967295 : Int64)) - (1 : Int64)) + (0 : Int64)), vz, vi 1, vi 0] [(.int (((((w1).toInt64 &&& (4294967295 : Int64)) - (1 : Int64)) + (0 : Int64))).toInt32), (.int 1), (.ref va)]
 rw [show (((((w1).toInt64 &&& (4294967295 : Int64)) - (1 : Int64)) + (0 : Int64))).toInt32 = (w1 - (1 : Int32)) from (own_dif (own_odd1 hodd)).2]
 obtain ⟨T110, h110, X110, e110, W110, A110, st110⟩ := stoI X109 hx hZ e109 (A_va.keep K101q nin0) (j := (1 : Int32)) (by decide) (i := 1) (by decide) (Nat.le_of_ble_eq_true rfl) (g := (mkF m 109 #[vr a1, vr a2, vr a1, vi 1, vj ((((w1).toInt64 &&& (4294967295 : Int64)) - (1 : Int64)) + (0 : Int64)), vz, vi 1, vi 0] [(.int (w1 - (1 : Int32))), (.int 1), (.ref va)])) rfl rfl (hb hby d44_109)
 have f111 : Ax Z h110 va .int [(.int w0), (.int (w1 - (1 : Int32)))] := A110
 refine dS st110 ?_
 show Aq T110 110 #[vr a1, vr a2, vr a1, vi 1, vj ((((w1).toInt64 &&& (4294967295 : Int64)) - (1 : Int64)) + (0 : Int64)), vz, vi 1, vi 0] []
 refine gO X110 hx hby d44_110 (pc' := 41) (H := ?_)
 refine iL X110 hx hby d44_41 rfl ?_
 refine iY X110 hx hby d44_43 (pc' := 113) ((if0 _ _).trans (flt (by decide)).2.2.2) (H := ?_)
 refine jL X110 hx hby d44_113 rfl ?_
 refine dS (fun t k => XS.lconst X110.here hx rfl (hb hby d44_115) k) ?_
 show Aq T110 116 #[vr a1, vr a2, vr a1, vi 1, vj ((((w1).toInt64 &&& (4294967295 : Int64)) - (1 : Int64)) + (0 : Int64)), vz, vi 1, vi 0] [(.long 0), (.long ((((w1).toInt64 &&& (4294967295 : Int64)) - (1 : Int64)) + (0 : Int64)))]
 refine dS (fun t k => XS.lcmp X110.here hx rfl (hb hby d44_116) rfl k) ?_
 show Aq T110 117 #[vr a1, vr a2, vr a1, vi 1, vj ((((w1).toInt64 &&& (4294967295 : Int64)) - (1 : Int64)) + (0 : Int64)), vz, vi 1, vi 0] [(.int (lcmpW ((((w1).toInt64 &&& (4294967295 : Int64)) - (1 : Int64)) + (0 : Int64)) (0 : Int64)))]
 refine iY X110 hx hby d44_117 (pc' := 171) ((if0 _ _).trans (flt (fun q_ => (own_dif (own_odd1 hodd)).1 ((lw_lt _ _).mp q_))).2.1) (H := ?_)
 refine aN X110 hx hby d44_171 rfl rfl ?_
 obtain ⟨v112, T112, L112, X112, hQ112, st112⟩ := cV X110 hx hZ hown (tw272 hw) (tw273 hw) (tw275 hw) (tw274 hw) (tw102 hw) (tw276 hw) (nor2 l Z a0 hw [] a1 va w0 (w1 - (1 : Int32)) h110 n0 (lw (lq Z0 K101q.1) W110) ((E_a1.keep K101q).wr W110) ((F_a1_value.keep K101q nin0).other W110 (Or.inl ne_a1_va)) ((F_a1_intLen.keep K101q nin0).other W110 (Or.inl ne_a1_va)) ((F_a1_offset.keep K101q nin0).other W110 (Or.inl ne_a1_va)) f111 hw0) (W := 0) e110 ((E_a1.keep K101q).wr W110) (g := (mkF m 172 #[vr a1, vr a2, vr a1, vi 1, vj ((((w1).toInt64 &&& (4294967295 : Int64)) - (1 : Int64)) + (0 : Int64)), vz, vi 1, vi 0] [(.ref a1)])) rfl hml rfl (argsL := []) (rest := []) (lenOf pd_2 rfl) rfl rfl rfl (hb hby d44_172) rfl
 refine Done.far st112 ?_
 obtain ⟨rfl, N112q, K112q⟩ := hQ112
 have f113 := ((F_a1_value.keep K101q nin0).other W110 (Or.inl ne_a1_va)).keep K112q nin0
 have f114 := ((F_a1_intLen.keep K101q nin0).other W110 (Or.inl ne_a1_va)).keep K112q nin0
 have f115 := ((F_a1_offset.keep K101q nin0).other W110 (Or.inl ne_a1_va)).keep K112q nin0
 have f116 := ((F_a2_value.keep K101q nin0).other W110 (Or.inl ne_a2_va)).keep K112q nin0
 have f117 := ((F_a2_intLen.keep K101q nin0).other W110 (Or.inl ne_a2_va)).keep K112q nin0
 have f118 := ((F_a2_offset.keep K101q nin0).other W110 (Or.inl ne_a2_va)).keep K112q nin0
 have Kk112 := (((kr h0 [va]).trans K101q all0).wr W110 (Or.inl me0)).trans K112q all0
 show Aq T112 175 #[vr a1, vr a2, vr a1, vi 1, vj ((((w1).toInt64 &&& (4294967295 : Int64)) - (1 : Int64)) + (0 : Int64)), vz, vi 1, vi 0] []
 refine iN X112 hx hby d44_175 rfl ?_
 exact Done.int X112 hx hlk hret (hb hby d44_176) (by decide) (by decide) ⟨rfl, (Fr.app (Fr.snoc X110 (Fr.app N0 N101q) g_va) N112q), ⟨Kk112, (f111.keep K112q nin0)⟩⟩
theorem d20_141 : dq cd21 141 (.aload_n 2) 1 := by decide +kernel
theorem d20_142 : dq cd21 142 (.getfield 17) 3 := by decide +kernel
theorem d20_145 : dq cd21 145 (.aload_n 2) 1 := by decide +kernel
theorem d20_146 : dq cd21 146 (.getfield 11) 3 := by decide +kernel
theorem d20_149 : dq cd21 149 .iaload 1 := by decide +kernel
theorem d20_150 : dq cd21 150 (.istore 11) 2 := by decide +kernel
theorem d20_152 : dq cd21 152 (.aload_n 1) 1 := by decide +kernel
theorem d20_153 : dq cd21 153 (.getfield 17) 3 := by decide +kernel
theorem d20_156 : dq cd21 156 (.aload_n 1) 1 := by decide +kernel
theorem d20_157 : dq cd21 157 (.getfield 11) 3 := by decide +kernel
theorem d20_160 : dq cd21 160 .iaload 1 := by decide +kernel
theorem d20_161 : dq cd21 161 (.istore 12) 2 := by decide +kernel
theorem d20_163 : dq cd21 163 (.iload 11) 2 := by decide +kernel
theorem d20_165 : dq cd21 165 (.iload 12) 2 := by decide +kernel
theorem d20_167 : dq cd21 167 (.invokestatic 338) 3 := by decide +kernel
theorem d20_170 : dq cd21 170 (.istore 11) 2 := by decide +kernel
theorem d20_172 : dq cd21 172 (.aload_n 3) 1 := by decide +kernel
theorem d20_173 : dq cd21 173 (.getfield 17) 3 := by decide +kernel
theorem d20_176 : dq cd21 176 (.iconst 0) 1 := by decide +kernel
theorem d20_177 : dq cd21 177 (.iload 11) 2 := by decide +kernel
theorem d20_179 : dq cd21 179 .iastore 1 := by decide +kernel
theorem d20_180 : dq cd21 180 (.aload_n 3) 1 := by decide +kernel
theorem d20_181 : dq cd21 181 (.iconst 1) 1 := by decide +kernel
theorem d20_182 : dq cd21 182 (.putfield 21) 3 := by decide +kernel
theorem d20_185 : dq cd21 185 (.aload_n 3) 1 := by decide +kernel
theorem d20_186 : dq cd21 186 (.iconst 0) 1 := by decide +kernel
theorem d20_187 : dq cd21 187 (.putfield 11) 3 := by decide +kernel
theorem d20_190 : dq cd21 190 (.iload 6) 2 := by decide +kernel
theorem d20_192 : dq cd21 192 (.ifCond .le 9) 3 := by decide +kernel
theorem d20_201 : dq cd21 201 (.aload_n 3) 1 := by decide +kernel
theorem d20_202 : dq cd21 202 .areturn 1 := by decide +kernel
theorem blk141 {p : Program} {l : Launch} {e : Env} {s : State} {m : MethodId} {args : Array Value} {below : List Frame} {meth : Method} {c : Code} {T : State} {locs : List Loc} {Z : State} {a0 : Array Value} {h0 : Heap} {n0 : Nat} {hO : Heap} (a1 va a2 vb a3 rv : Addr) (x4 x5 x7 x9 x10 xx : Int32) (t8 : Addr) (rs : List Value)
  (X0 : Stand p l e ({ frames := 3, cells := 2, slots := 4, locals := 42 } : Room) s m args below meth c T locs 2 4) (hx : p.tables.exec = Jvm.exec) (hZ : Z.Warmed39 s.vm) (hw : HH a0 Z) (hby : c.code = jdk_2101_method_73_code) (hml : c.maxLocals = 13) (hown : s.vm.findClass "java/math/MutableBigInteger" = some m.cls) (hlk : meth.locks = false) (hret : meth.sig.returnType = (some (.object "java/math/MutableBigInteger") : Option FieldType)) (hnm : meth.name = "binaryGCD") (N0 : Fr n0 locs) (Z0 : n0 ≤ h0.size) (e0 : T.heap = h0) (K0 : Keep hO h0 [a1, va, a2, vb]) (F_a1_value : Fl0 Z h0 a1 (.ref va)) (F_a1_offset : Fl2 Z h0 a1 (.int 0)) (A_va : Ax Z h0 va .int (Value.int xx :: rs)) (F_a2_value : Fl0 Z h0 a2 (.ref vb)) (F_a2_offset : Fl2 Z h0 a2 (.int 0)) (A_vb : Ax Z h0 vb .int [(.int 1)]) (E_a3 : Fl3 Z h0 a3) (F_a3_value : Fl0 Z h0 a3 (.ref rv)) (F_a3_intLen : Fl1 Z h0 a3 (.int 0)) (F_a3_offset : Fl2 Z h0 a3 (.int 0)) (A_rv : Ax Z h0 rv .int [(.int 0)]) (E_rv : Fl4 Z h0 rv) (g_a3 : n0 ≤ a3) (g_rv : n0 ≤ rv) (sz_a3 : hO.size ≤ a3) (sz_rv : hO.size ≤ rv) (ne_a3_a1 : a3 ≠ a1) (ne_a3_va : a3 ≠ va) (ne_a3_a2 : a3 ≠ a2) (ne_a3_vb : a3 ≠ vb) (ne_rv_a1 : rv ≠ a1) (ne_rv_va : rv ≠ va) (ne_rv_a2 : rv ≠ a2) (ne_rv_vb : rv ≠ vb) (ne_a3_rv : a3 ≠ rv) (hhi : ¬ xx = (0 : Int32)) :
  Done p e below s (fun v h L => ∃ (r0 : Addr) (rv : Addr), v = some (.ref r0) ∧ Fr n0 L ∧ Keep hO h [a1, va, a2, vb] ∧ Fl3 Z h r0 ∧ Fl0 Z h r0 (.ref rv) ∧ Fl1 Z h r0 (.int 1) ∧ Fl2 Z h r0 (.int 0) ∧ Ax Z h rv .int [(.int 1)] ∧ Fl4 Z h rv ∧ hO.size ≤ r0 ∧ hO.size ≤ rv ∧ r0 ≠ rv) ({ frames := 3, cells := 2, slots := 4, locals := 42 } : Room).cells ({ frames := 3, cells := 2, slots := 4, locals := 42 } : Room).slots (T.setTop (mkF m 141 #[vr a1, vr a2, vr a1, vr a3, vi x4, vi x5, vi 0, vi x7, vr t8, vi x9, vi x10, vu, vu] [])) := by
 show Aq T 141 #[vr a1, vr a2, vr a1, vr a3, vi x4, vi x5, vi 0, vi x7, vr t8, vi x9, vi x10, vu, vu] []
 refine aN X0 hx hby d20_141 rfl rfl ?_
 obtain ⟨T101, X101, e101, st101⟩ := gF X0 hx hZ hown (tw127 hw) e0 F_a1_value (g := (mkF m 142 #[vr a1, vr a2, vr a1, vr a3, vi x4, vi x5, vi 0, vi x7, vr t8, vi x9, vi x10, vu, vu] [(.ref a1)])) rfl rfl (hb hby d20_142)
 refine dS st101 ?_
 show Aq T101 145 #[vr a1, vr a2, vr a1, vr a3, vi x4, vi x5, vi 0, vi x7, vr t8, vi x9, vi x10, vu, vu] [(.ref va)]
 refine aN X101 hx hby d20_145 rfl rfl ?_
 obtain ⟨T102, X102, e102, st102⟩ := gF X101 hx hZ hown (tw108 hw) e101 F_a1_offset (g := (mkF m 146 #[vr a1, vr a2, vr a1, vr a3, vi x4, vi x5, vi 0, vi x7, vr t8, vi x9, vi x10, vu, vu] [(.ref a1), (.ref va)])) rfl rfl (hb hby d20_146)
 refine dS st102 ?_
 show Aq T102 149 #[vr a1, vr a2, vr a1, vr a3, vi x4, vi x5, vi 0, vi x7, vr t8, vi x9, vi x10, vu, vu] [(.int 0), (.ref va)]
 refine dS (ldI X102 hx hZ e102 A_va (j := (0 : Int32)) (x := (.int xx)) (by decide) rfl (g := (mkF m 149 #[vr a1, vr a2, vr a1, vr a3, vi x4, vi x5, vi 0, vi x7, vr t8, vi x9, vi x10, vu, vu] [(.int 0), (.ref va)])) rfl rfl (hb hby d20_149)) ?_
 show Aq T102 150 #[vr a1, vr a2, vr a1, vr a3, vi x4, vi x5, vi 0, vi x7, vr t8, vi x9, vi x10, vu, vu] [(.int xx)]
 refine sL X102 hx hby d20_150 (l' := #[vr a1, vr a2, vr a1, vr a3, vi x4, vi x5, vi 0, vi x7, vr t8, vi x9, vi x10, vi xx, vu]) rfl ?_
 refine aN X102 hx hby d20_152 rfl rfl ?_
 obtain ⟨T103, X103, e103, st103⟩ := gF X102 hx hZ hown (tw127 hw) e102 F_a2_value (g := (mkF m 153 #[vr a1, vr a2, vr a1, vr a3, vi x4, vi x5, vi 0, vi x7, vr t8, vi x9, vi x10, vi xx, vu] [(.ref a2)])) rfl rfl (hb hby d20_153)
 refine dS st103 ?_
 show Aq T103 156 #[vr a1, vr a2, vr a1, vr a3, vi x4, vi x5, vi 0, vi x7, vr t8, vi x9, vi x10, vi xx, vu] [(.ref vb)]
 refine aN X103 hx hby d20_156 rfl rfl ?_
 obtain ⟨T104, X104, e104, st104⟩ := gF X103 hx hZ hown (tw108 hw) e103 F_a2_offset (g := (mkF m 157 #[vr a1, vr a2, vr a1, vr a3, vi x4, vi x5, vi 0, vi x7, vr t8, vi x9, vi x10, vi xx, vu] [(.ref a2), (.ref vb)])) rfl rfl (hb hby d20_157)
 refine dS st104 ?_
 show Aq T104 160 #[vr a1, vr a2, vr a1, vr a3, vi x4, vi x5, vi 0, vi x7, vr t8, vi x9, vi x10, vi xx, vu] [(.int 0), (.ref vb)]
 refine dS (ldI X104 hx hZ e104 A_vb (j := (0 : Int32)) (x := (.int 1)) (by decide) rfl (g := (mkF m 160 #[vr a1, vr a2, vr a1, vr a3, vi x4, vi x5, vi 0, vi x7, vr t8, vi x9, vi x10, vi xx, vu] [(.int 0), (.ref vb)])) rfl rfl (hb hby d20_160)) ?_
 show Aq T104 161 #[vr a1, vr a2, vr a1, vr a3, vi x4, vi x5, vi 0, vi x7, vr t8, vi x9, vi x10, vi xx, vu] [(.int 1)]
 refine sL X104 hx hby d20_161 (l' := #[vr a1, vr a2, vr a1, vr a3, vi x4, vi x5, vi 0, vi x7, vr t8, vi x9, vi x10, vi xx, vi 1]) rfl ?_
 refine iL X104 hx hby d20_163 rfl ?_
 refine iL X104 hx hby d20_165 rfl ?_
 obtain ⟨v105, T105, L105, X105, hQ105, st105⟩ := cS X104 hx hZ hown (tw173 hw) (tw174 hw) (tw102 hw) (tw175 hw) (rm27 l Z a0 hw [] xx (1 : Int32)  h0 n0 Z0 (own_une hhi) rfl) (W := 0) e104 (g := (mkF m 167 #[vr a1, vr a2, vr a1, vr a3, vi x4, vi x5, vi 0, vi x7, vr t8, vi x9, vi x10, vi xx, vi 1] [(.int 1), (.int xx)])) rfl hml rfl (argsL := [(.int xx), (.int 1)]) (rest := []) (lenOf pd_7 rfl) rfl rfl rfl (hb hby d20_167) rfl
 refine dS st105 ?_
 obtain ⟨rfl, N105q, e105⟩ := hQ105
 show Aq T105 170 #[vr a1, vr a2, vr a1, vr a3, vi x4, vi x5, vi 0, vi x7, vr t8, vi x9, vi x10, vi xx, vi 1] [(.int 1)]
 refine sL X105 hx hby d20_170 (l' := #[vr a1, vr a2, vr a1, vr a3, vi x4, vi x5, vi 0, vi x7, vr t8, vi x9, vi x10, vi 1, vi 1]) rfl ?_
 refine aN X105 hx hby d20_172 rfl rfl ?_
 obtain ⟨T106, X106, e106, st106⟩ := gF X105 hx hZ hown (tw127 hw) e105 F_a3_value (g := (mkF m 173 #[vr a1, vr a2, vr a1, vr a3, vi x4, vi x5, vi 0, vi x7, vr t8, vi x9, vi x10, vi 1, vi 1] [(.ref a3)])) rfl rfl (hb hby d20_173)
 refine dS st106 ?_
 show Aq T106 176 #[vr a1, vr a2, vr a1, vr a3, vi x4, vi x5, vi 0, vi x7, vr t8, vi x9, vi x10, vi 1, vi 1] [(.ref rv)]
 refine iC X106 hx hby d20_176 (z := 0) rfl ?_
 refine iL X106 hx hby d20_177 rfl ?_
 obtain ⟨T107, h107, X107, e107, W107, A107, st107⟩ := stoI X106 hx hZ e106 A_rv (j := (0 : Int32)) (by decide) (i := 0) (by decide) (Nat.le_of_ble_eq_true rfl) (g := (mkF m 179 #[vr a1, vr a2, vr a1, vr a3, vi x4, vi x5, vi 0, vi x7, vr t8, vi x9, vi x10, vi 1, vi 1] [(.int 1), (.int 0), (.ref rv)])) rfl rfl (hb hby d20_179)
 have f108 : Ax Z h107 rv .int [(.int 1)] := A107
 refine dS st107 ?_
 show Aq T107 180 #[vr a1, vr a2, vr a1, vr a3, vi x4, vi x5, vi 0, vi x7, vr t8, vi x9, vi x10, vi 1, vi 1] []
 refine aN X107 hx hby d20_180 rfl rfl ?_
 refine iC X107 hx hby d20_181 (z := 1) rfl ?_
 obtain ⟨T109, h109, X109, e109, W109, st109⟩ := putF X107 hx hZ hown (host := "") (Or.inl (tw112 hw)) Via.refl e107 (F_a3_intLen.other W107 (Or.inl ne_a3_rv)) (E_a3.wr W107) (Or.inl (tw113 hw)) (tw101 hw) (ty := .int) (by decide) rfl rfl (g := (mkF m 182 #[vr a1, vr a2, vr a1, vr a3, vi x4, vi x5, vi 0, vi x7, vr t8, vi x9, vi x10, vi 1, vi 1] [(.int 1), (.ref a3)])) rfl rfl (hb hby d20_182)
 have f110 := (F_a1_value.other W107 (Or.inl ne_rv_a1.symm)).other W109 (Or.inl ne_a3_a1.symm)
 have f111 := (F_a1_offset.other W107 (Or.inl ne_rv_a1.symm)).other W109 (Or.inl ne_a3_a1.symm)
 have f112 := (F_a2_value.other W107 (Or.inl ne_rv_a2.symm)).other W109 (Or.inl ne_a3_a2.symm)
 have f113 := (F_a2_offset.other W107 (Or.inl ne_rv_a2.symm)).other W109 (Or.inl ne_a3_a2.symm)
 have f114 := (F_a3_value.other W107 (Or.inl ne_a3_rv)).other W109 (Or.inr (sq4 hw))
 have f115 := (F_a3_intLen.other W107 (Or.inl ne_a3_rv)).same W109
 have f116 := (F_a3_offset.other W107 (Or.inl ne_a3_rv)).other W109 (Or.inr (sq5 hw))
 refine dS st109 ?_
 show Aq T109 185 #[vr a1, vr a2, vr a1, vr a3, vi x4, vi x5, vi 0, vi x7, vr t8, vi x9, vi x10, vi 1, vi 1] []
 refine aN X109 hx hby d20_185 rfl rfl ?_
 refine iC X109 hx hby d20_186 (z := 0) rfl ?_
 obtain ⟨T117, h117, X117, e117, W117, st117⟩ := putF X109 hx hZ hown (host := "") (Or.inl (tw108 hw)) Via.refl e109 f116 ((E_a3.wr W107).wr W109) (Or.inl (tw109 hw)) (tw101 hw) (ty := .int) (by decide) rfl rfl (g := (mkF m 187 #[vr a1, vr a2, vr a1, vr a3, vi x4, vi x5, vi 0, vi x7, vr t8, vi x9, vi x10, vi 1, vi 1] [(.int 0), (.ref a3)])) rfl rfl (hb hby d20_187)
 have f118 := ((A_va.other W107 ne_rv_va.symm).other W109 ne_a3_va.symm).other W117 ne_a3_va.symm
 have f119 := ((A_vb.other W107 ne_rv_vb.symm).other W109 ne_a3_vb.symm).other W117 ne_a3_vb.symm
 have f120 := f114.other W117 (Or.inr (sq0 hw))
 have f121 := f115.other W117 (Or.inr (sq1 hw))
 have f122 := f116.same W117
 have N117 := Fr.snoc X117 (Fr.snoc X109 (Fr.snoc X107 (Fr.app N0 N105q) g_rv) g_a3) g_a3
 have K117 := ((K0.wr W107 (Or.inr sz_rv)).wr W109 (Or.inr sz_a3)).wr W117 (Or.inr sz_a3)
 refine dS st117 ?_
 show Aq T117 190 #[vr a1, vr a2, vr a1, vr a3, vi x4, vi x5, vi 0, vi x7, vr t8, vi x9, vi x10, vi 1, vi 1] []
 refine iL X117 hx hby d20_190 rfl ?_
 refine iY X117 hx hby d20_192 (pc' := 201) ((if0 _ _).trans (flt (by decide)).2.2.2) (H := ?_)
 refine aN X117 hx hby d20_201 rfl rfl ?_
 exact Done.ref X117 hx hlk hret rfl rfl rfl (hb hby d20_202) (by decide) (by decide) ⟨a3, rv, rfl, N117, (by rw [e117]; exact ⟨K117, (((E_a3.wr W107).wr W109).wr W117), f120, f121, f122, ((f108.other W109 ne_a3_rv.symm).other W117 ne_a3_rv.symm), (((E_rv.wr W107).wr W109).wr W117), sz_a3, sz_rv, ne_a3_rv⟩)⟩
theorem d20_93 : dq cd21 93 (.aload 8) 2 := by decide +kernel
theorem d20_95 : dq cd21 95 (.invokevirtual 184) 3 := by decide +kernel
theorem d20_98 : dq cd21 98 .dup 1 := by decide +kernel
theorem d20_99 : dq cd21 99 (.istore 10) 2 := by decide +kernel
theorem d20_101 : dq cd21 101 (.ifCond .lt 131) 3 := by decide +kernel
theorem d20_104 : dq cd21 104 (.aload 8) 2 := by decide +kernel
theorem d20_106 : dq cd21 106 (.iload 10) 2 := by decide +kernel
theorem d20_108 : dq cd21 108 (.invokevirtual 108) 3 := by decide +kernel
theorem d20_111 : dq cd21 111 (.iload 9) 2 := by decide +kernel
theorem d20_113 : dq cd21 113 (.ifCond .le 9) 3 := by decide +kernel
theorem d20_116 : dq cd21 116 (.aload 8) 2 := by decide +kernel
theorem d20_118 : dq cd21 118 (.astore_n 2) 1 := by decide +kernel
theorem d20_119 : dq cd21 119 (.goto 6) 3 := by decide +kernel
theorem d20_125 : dq cd21 125 (.aload_n 2) 1 := by decide +kernel
theorem d20_126 : dq cd21 126 (.getfield 21) 3 := by decide +kernel
theorem d20_129 : dq cd21 129 (.iconst 2) 1 := by decide +kernel
theorem d20_130 : dq cd21 130 (.if_icmp .ge 73) 3 := by decide +kernel
theorem d20_133 : dq cd21 133 (.aload_n 1) 1 := by decide +kernel
theorem d20_134 : dq cd21 134 (.getfield 21) 3 := by decide +kernel
theorem d20_137 : dq cd21 137 (.iconst 2) 1 := by decide +kernel
theorem d20_138 : dq cd21 138 (.if_icmp .ge 65) 3 := by decide +kernel
theorem d20_203 : dq cd21 203 (.aload_n 2) 1 := by decide +kernel
theorem d20_204 : dq cd21 204 (.aload_n 1) 1 := by decide +kernel
theorem d20_205 : dq cd21 205 (.invokevirtual 341) 3 := by decide +kernel
theorem d20_208 : dq cd21 208 .dup 1 := by decide +kernel
theorem d20_209 : dq cd21 209 (.istore 9) 2 := by decide +kernel
theorem d20_211 : dq cd21 211 (.ifCond .ne 6) 3 := by decide +kernel
theorem d20_217 : dq cd21 217 (.iload 9) 2 := by decide +kernel
theorem d20_219 : dq cd21 219 (.ifCond .lt 7) 3 := by decide +kernel
theorem d20_222 : dq cd21 222 (.aload_n 2) 1 := by decide +kernel
theorem d20_223 : dq cd21 223 (.goto 4) 3 := by decide +kernel
theorem d20_227 : dq cd21 227 (.astore 8) 2 := by decide +kernel
theorem d20_229 : dq cd21 229 (.goto (-136)) 3 := by decide +kernel
theorem d20_0 : dq cd21 0 (.aload_n 0) 1 := by decide +kernel
theorem d20_1 : dq cd21 1 (.astore_n 2) 1 := by decide +kernel
theorem d20_2 : dq cd21 2 (.new 12) 3 := by decide +kernel
theorem d20_5 : dq cd21 5 .dup 1 := by decide +kernel
theorem d20_6 : dq cd21 6 (.invokespecial 177) 3 := by decide +kernel
theorem d20_9 : dq cd21 9 (.astore_n 3) 1 := by decide +kernel
theorem d20_10 : dq cd21 10 (.aload_n 2) 1 := by decide +kernel
theorem d20_11 : dq cd21 11 (.invokevirtual 184) 3 := by decide +kernel
theorem d20_14 : dq cd21 14 (.istore 4) 2 := by decide +kernel
theorem d20_16 : dq cd21 16 (.aload_n 1) 1 := by decide +kernel
theorem d20_17 : dq cd21 17 (.invokevirtual 184) 3 := by decide +kernel
theorem d20_20 : dq cd21 20 (.istore 5) 2 := by decide +kernel
theorem d20_22 : dq cd21 22 (.iload 4) 2 := by decide +kernel
theorem d20_24 : dq cd21 24 (.iload 5) 2 := by decide +kernel
theorem d20_26 : dq cd21 26 (.if_icmp .ge 8) 3 := by decide +kernel
theorem d20_34 : dq cd21 34 (.iload 5) 2 := by decide +kernel
theorem d20_36 : dq cd21 36 (.istore 6) 2 := by decide +kernel
theorem d20_38 : dq cd21 38 (.iload 6) 2 := by decide +kernel
theorem d20_40 : dq cd21 40 (.ifCond .eq 15) 3 := by decide +kernel
theorem d20_55 : dq cd21 55 (.iload 6) 2 := by decide +kernel
theorem d20_57 : dq cd21 57 (.iload 4) 2 := by decide +kernel
theorem d20_59 : dq cd21 59 (.if_icmp .ne 7) 3 := by decide +kernel
theorem d20_62 : dq cd21 62 (.iconst 1) 1 := by decide +kernel
theorem d20_63 : dq cd21 63 (.goto 4) 3 := by decide +kernel
theorem d20_66 : dq cd21 66 (.iconst 0) 1 := by decide +kernel
theorem d20_67 : dq cd21 67 (.istore 7) 2 := by decide +kernel
theorem d20_69 : dq cd21 69 (.iload 7) 2 := by decide +kernel
theorem d20_71 : dq cd21 71 (.ifCond .eq 7) 3 := by decide +kernel
theorem d20_74 : dq cd21 74 (.aload_n 1) 1 := by decide +kernel
theorem d20_75 : dq cd21 75 (.goto 4) 3 := by decide +kernel
theorem d20_78 : dq cd21 78 (.aload_n 2) 1 := by decide +kernel
theorem d20_79 : dq cd21 79 (.astore 8) 2 := by decide +kernel
theorem d20_81 : dq cd21 81 (.iload 7) 2 := by decide +kernel
theorem d20_83 : dq cd21 83 (.ifCond .eq 7) 3 := by decide +kernel
theorem d20_86 : dq cd21 86 (.iconst (-1)) 1 := by decide +kernel
theorem d20_87 : dq cd21 87 (.goto 4) 3 := by decide +kernel
theorem d20_90 : dq cd21 90 (.iconst 1) 1 := by decide +kernel
theorem d20_91 : dq cd21 91 (.istore 9) 2 := by decide +kernel
theorem d20_122 : dq cd21 122 (.aload 8) 2 := by decide +kernel
theorem d20_124 : dq cd21 124 (.astore_n 1) 1 := by decide +kernel
theorem ef_20 (m : MethodId) (a1 : Addr) (a2 : Addr) : entryFrame m #[(.ref a1), (.ref a2)] 13 = mkF m 0 #[.val (.ref a1), .val (.ref a2), .unset, .unset, .unset, .unset, .unset, .unset, .unset, .unset, .unset, .unset, .unset] [] := by first | (simp [entryFrame, mkF, argsToLocals, Value.category]; done) | rfl
theorem bg1 (l : Launch) (Z : State) (a0 : Array Value) (hw : HH a0 Z) (ws : List Jvm.Cond) (a1 a2 va vb : Addr) (w0 : Int32) (h0 : Heap) (n0 : Nat) (Z0 : n0 ≤ h0.size) (E_a1 : Fl3 Z h0 a1) (F_a1_value : Fl0 Z h0 a1 (.ref va)) (F_a1_intLen : Fl1 Z h0 a1 (.int 1)) (F_a1_offset : Fl2 Z h0 a1 (.int 0)) (A_va : Ax Z h0 va .int [(.int w0)]) (E_a2 : Fl3 Z h0 a2) (F_a2_value : Fl0 Z h0 a2 (.ref vb)) (F_a2_intLen : Fl1 Z h0 a2 (.int 1)) (F_a2_offset : Fl2 Z h0 a2 (.int 0)) (A_vb : Ax Z h0 vb .int [(.int 1)]) (g_a1 : n0 ≤ a1) (g_va : n0 ≤ va) (g_a2 : n0 ≤ a2) (g_vb : n0 ≤ vb) (ne_a1_va : a1 ≠ va) (ne_a1_a2 : a1 ≠ a2) (ne_a1_vb : a1 ≠ vb) (ne_va_a2 : va ≠ a2) (ne_va_vb : va ≠ vb) (ne_a2_vb : a2 ≠ vb) (hw0 : ¬ w0 = (0 : Int32)) : MF l "java/math/MutableBigInteger" "binaryGCD" "(Ljava/math/MutableBigInteger;)Ljava/math/MutableBigInteger;" jdk_2101_method_73_code 13 (some (.object "java/math/MutableBigInteger")) ws ⟨3, 2, 4, 42⟩ Z h0 #[(.ref a1), (.ref a2)] (fun v h L => ∃ (r0 rv : Addr), v = some (.ref r0) ∧ Fr n0 L ∧ Keep h0 h [a1, va, a2, vb] ∧ Fl3 Z h r0 ∧ Fl0 Z h r0 (.ref rv) ∧ Fl1 Z h r0 (.int 1) ∧ Fl2 Z h r0 (.int 0) ∧ Ax Z h rv .int [(.int 1)] ∧ Fl4 Z h rv ∧ h0.size ≤ r0 ∧ h0.size ≤ rv ∧ r0 ≠ rv) := by
 refine own_body (n0 := n0) (plainFor_of_name pn_27) (fun m => ef_20 m a1 a2) ?_
 intro p e s m below meth c s₁ hZ hx hby hml hown hlk hret hnm X0 e0 N0
 show Aq s₁ 0 #[vr a1, vr a2, vu, vu, vu, vu, vu, vu, vu, vu, vu, vu, vu] []
 refine aN X0 hx hby d20_0 rfl rfl ?_
 refine aT X0 hx hby d20_1 rfl (l' := #[vr a1, vr a2, vr a1, vu, vu, vu, vu, vu, vu, vu, vu, vu, vu]) rfl ?_
 obtain ⟨T101, h101, X101, e101, E101, A101, D101, -, st101⟩ := newO X0 hx hZ hown (tw134 hw) (tw101 hw) (tw102 hw) e0 (g := (mkF m 2 #[vr a1, vr a2, vr a1, vu, vu, vu, vu, vu, vu, vu, vu, vu, vu] [])) rfl (hb hby d20_2) (by decide) (by decide)
 obtain ⟨b101, gq101⟩ : ∃ z, z = h0.size := ⟨_, rfl⟩
 rw [← gq101] at A101 D101 st101
 have sz_b101 := lb (kr h0 [a1, va, a2, vb]).1 gq101
 have f102 : Fl2 Z h101 b101 (.int 0) := D101 (Or.inl (tw109 hw)) (ty := .int) (by decide)
 have f103 : Fl1 Z h101 b101 (.int 0) := D101 (Or.inl (tw113 hw)) (ty := .int) (by decide)
 have f104 : Fl0 Z h101 b101 .null := D101 (Or.inl (tw128 hw)) (ty := (.array .int)) (by decide)
 refine dS st101 ?_
 show Aq T101 5 #[vr a1, vr a2, vr a1, vu, vu, vu, vu, vu, vu, vu, vu, vu, vu] [(.ref b101)]
 refine dU X101 hx hby d20_5 rfl ?_
 obtain ⟨v105, T105, L105, X105, hQ105, st105⟩ := cI X101 hx hZ hown (tw135 hw) (tw136 hw) (tw102 hw) (tw137 hw) (mi0 l Z a0 hw [] b101  h101 n0 (lq Z0 E101.1) A101 f104 f103 f102 (lb Z0 gq101)) (W := 1) e101 (g := (mkF m 6 #[vr a1, vr a2, vr a1, vu, vu, vu, vu, vu, vu, vu, vu, vu, vu] [(.ref b101), (.ref b101)])) rfl hml rfl (argsL := []) (rest := [(.ref b101)]) (lenOf pd_2 rfl) rfl rfl rfl (hb hby d20_6) rfl
 refine Done.far st105 ?_
 obtain ⟨bv_105, rfl, N105q, K105q, y105_0, y105_1, y105_2, y105_3, y105_4, y105_5, z105_6⟩ := hQ105
 have sz_bv_105 := lq ((kr h0 [a1, va, a2, vb]).ext E101).1 z105_6
 have ne106 := nl E_a1.lt gq101
 have ne107 := nl A_va.lt gq101
 have ne108 := nl E_a2.lt gq101
 have ne109 := nl A_vb.lt gq101
 have Kk105 := ((kr h0 [a1, va, a2, vb]).ext E101).trans K105q (allS (Or.inr sz_b101) all0)
 show Aq T105 9 #[vr a1, vr a2, vr a1, vu, vu, vu, vu, vu, vu, vu, vu, vu, vu] [(.ref b101)]
 refine aT X105 hx hby d20_9 rfl (l' := #[vr a1, vr a2, vr a1, vr b101, vu, vu, vu, vu, vu, vu, vu, vu, vu]) rfl ?_
 refine aN X105 hx hby d20_10 rfl rfl ?_
 obtain ⟨v110, T110, L110, X110, hQ110, st110⟩ := cP X105 hx hZ hown (tw147 hw) (tw148 hw) (tw150 hw) (tw149 hw) (tw102 hw) (tw151 hw) (rmg1a l Z a0 hw [] a1 va w0 T105.heap n0 (lq (lq Z0 E101.1) K105q.1) ((E_a1.ext E101).keep K105q) ((F_a1_value.ext E101).keep K105q (ni1 ne106)) ((F_a1_intLen.ext E101).keep K105q (ni1 ne106)) ((F_a1_offset.ext E101).keep K105q (ni1 ne106)) ((A_va.ext E101).keep K105q (ni1 ne107))) (W := 0) rfl ((E_a1.ext E101).keep K105q) (g := (mkF m 11 #[vr a1, vr a2, vr a1, vr b101, vu, vu, vu, vu, vu, vu, vu, vu, vu] [(.ref a1)])) rfl hml rfl (argsL := []) (rest := []) (lenOf pd_8 rfl) rfl rfl rfl (hb hby d20_11) rfl
 refine Done.far st110 ?_
 obtain ⟨rfl, N110q, e110⟩ := hQ110
 show Aq T110 14 #[vr a1, vr a2, vr a1, vr b101, vu, vu, vu, vu, vu, vu, vu, vu, vu] [(.int (Grmg1a w0))]
 refine sL X110 hx hby d20_14 (l' := #[vr a1, vr a2, vr a1, vr b101, vi (Grmg1a w0), vu, vu, vu, vu, vu, vu, vu, vu]) rfl ?_
 refine aN X110 hx hby d20_16 rfl rfl ?_
 obtain ⟨v111, T111, L111, X111, hQ111, st111⟩ := cP X110 hx hZ hown (tw147 hw) (tw148 hw) (tw150 hw) (tw149 hw) (tw102 hw) (tw151 hw) (rmg1a l Z a0 hw [] a2 vb (1 : Int32) T105.heap n0 (lq (lq Z0 E101.1) K105q.1) ((E_a2.ext E101).keep K105q) ((F_a2_value.ext E101).keep K105q (ni1 ne108)) ((F_a2_intLen.ext E101).keep K105q (ni1 ne108)) ((F_a2_offset.ext E101).keep K105q (ni1 ne108)) ((A_vb.ext E101).keep K105q (ni1 ne109))) (W := 0) e110 ((E_a2.ext E101).keep K105q) (g := (mkF m 17 #[vr a1, vr a2, vr a1, vr b101, vi (Grmg1a w0), vu, vu, vu, vu, vu, vu, vu, vu] [(.ref a2)])) rfl hml rfl (argsL := []) (rest := []) (lenOf pd_8 rfl) rfl rfl rfl (hb hby d20_17) rfl
 refine Done.far st111 ?_
 obtain ⟨rfl, N111q, e111⟩ := hQ111
 show Aq T111 20 #[vr a1, vr a2, vr a1, vr b101, vi (Grmg1a w0), vu, vu, vu, vu, vu, vu, vu, vu] [(.int (Grmg1a (1 : Int32)))]
 rw [show (Grmg1a (1 : Int32)) = (0 : Int32) from (by decide +kernel)]
 show Aq T111 20 #[vr a1, vr a2, vr a1, vr b101, vi (Grmg1a w0), vu, vu, vu, vu, vu, vu, vu, vu] [(.int 0)]
 refine sL X111 hx hby d20_20 (l' := #[vr a1, vr a2, vr a1, vr b101, vi (Grmg1a w0), vi 0, vu, vu, vu, vu, vu, vu, vu]) rfl ?_
 refine iL X111 hx hby d20_22 rfl ?_
 refine iL X111 hx hby d20_24 rfl ?_
 refine cY X111 hx hby d20_26 (pc' := 34) (flt (own_g1nn (own_une hw0))).2.1 (H := ?_)
 refine iL X111 hx hby d20_34 rfl ?_
 refine sL X111 hx hby d20_36 (l' := #[vr a1, vr a2, vr a1, vr b101, vi (Grmg1a w0), vi 0, vi 0, vu, vu, vu, vu, vu, vu]) rfl ?_
 refine iL X111 hx hby d20_38 rfl ?_
 refine iY X111 hx hby d20_40 (pc' := 55) ((if0 _ _).trans (teq (by decide)).1) (H := ?_)
 refine iL X111 hx hby d20_55 rfl ?_
 refine iL X111 hx hby d20_57 rfl ?_
 by_cases c1 : (0 : Int32) = (Grmg1a w0)
 ·refine cF X111 hx hby d20_59 (teq c1).2 ?_
  refine iC X111 hx hby d20_62 (z := 1) rfl ?_
  refine gO X111 hx hby d20_63 (pc' := 67) (H := ?_)
  refine sL X111 hx hby d20_67 (l' := #[vr a1, vr a2, vr a1, vr b101, vi (Grmg1a w0), vi 0, vi 0, vi 1, vu, vu, vu, vu, vu]) rfl ?_
  refine iL X111 hx hby d20_69 rfl ?_
  refine iF X111 hx hby d20_71 ((if0 _ _).trans (feq (by decide)).1) ?_
  refine aN X111 hx hby d20_74 rfl rfl ?_
  refine gO X111 hx hby d20_75 (pc' := 79) (H := ?_)
  refine aS X111 hx hby d20_79 rfl (l' := #[vr a1, vr a2, vr a1, vr b101, vi (Grmg1a w0), vi 0, vi 0, vi 1, vr a2, vu, vu, vu, vu]) rfl ?_
  refine iL X111 hx hby d20_81 rfl ?_
  refine iF X111 hx hby d20_83 ((if0 _ _).trans (feq (by decide)).1) ?_
  refine iC X111 hx hby d20_86 (z := (-1)) rfl ?_
  refine gO X111 hx hby d20_87 (pc' := 91) (H := ?_)
  refine sL X111 hx hby d20_91 (l' := #[vr a1, vr a2, vr a1, vr b101, vi (Grmg1a w0), vi 0, vi 0, vi 1, vr a2, vi (-1 : Int32), vu, vu, vu]) rfl ?_
  refine aL X111 hx hby d20_93 rfl rfl ?_
  obtain ⟨v112, T112, L112, X112, hQ112, st112⟩ := cP X111 hx hZ hown (tw147 hw) (tw148 hw) (tw150 hw) (tw149 hw) (tw102 hw) (tw151 hw) (rmg1a l Z a0 hw [] a2 vb (1 : Int32) T105.heap n0 (lq (lq Z0 E101.1) K105q.1) ((E_a2.ext E101).keep K105q) ((F_a2_value.ext E101).keep K105q (ni1 ne108)) ((F_a2_intLen.ext E101).keep K105q (ni1 ne108)) ((F_a2_offset.ext E101).keep K105q (ni1 ne108)) ((A_vb.ext E101).keep K105q (ni1 ne109))) (W := 0) e111 ((E_a2.ext E101).keep K105q) (g := (mkF m 95 #[vr a1, vr a2, vr a1, vr b101, vi (Grmg1a w0), vi 0, vi 0, vi 1, vr a2, vi (-1 : Int32), vu, vu, vu] [(.ref a2)])) rfl hml rfl (argsL := []) (rest := []) (lenOf pd_8 rfl) rfl rfl rfl (hb hby d20_95) rfl
  refine Done.far st112 ?_
  obtain ⟨rfl, N112q, e112⟩ := hQ112
  show Aq T112 98 #[vr a1, vr a2, vr a1, vr b101, vi (Grmg1a w0), vi 0, vi 0, vi 1, vr a2, vi (-1 : Int32), vu, vu, vu] [(.int (Grmg1a (1 : Int32)))]
  refine dU X112 hx hby d20_98 rfl ?_
  refine sL X112 hx hby d20_99 (l' := #[vr a1, vr a2, vr a1, vr b101, vi (Grmg1a w0), vi 0, vi 0, vi 1, vr a2, vi (-1 : Int32), vi (Grmg1a (1 : Int32)), vu, vu]) rfl ?_
  refine iF X112 hx hby d20_101 ((if0 _ _).trans (flt (own_g1nn (by decide))).1) ?_
  obtain ⟨t, ht, h5, h31, -, hle⟩ := own_lb1 (w := (1 : Int32)) (by decide)
  refine aL X112 hx hby d20_104 rfl rfl ?_
  refine iL X112 hx hby d20_106 rfl ?_
  obtain ⟨v113, T113, L113, X113, hQ113, st113⟩ := cV X112 hx hZ hown (tw157 hw) (tw158 hw) (tw160 hw) (tw159 hw) (tw102 hw) (tw161 hw) (rs11 l Z a0 hw [] a2 (Grmg1a (1 : Int32)) vb (1 : Int32) (Int32.ofNat t) t T105.heap n0 (lq (lq Z0 E101.1) K105q.1) ((E_a2.ext E101).keep K105q) ((F_a2_value.ext E101).keep K105q (ni1 ne108)) ((F_a2_intLen.ext E101).keep K105q (ni1 ne108)) ((F_a2_offset.ext E101).keep K105q (ni1 ne108)) ((A_vb.ext E101).keep K105q (ni1 ne109)) g_a2 g_vb ne_a2_vb h5 h31 rfl ht hle (own_une (by decide))) (W := 0) e112 ((E_a2.ext E101).keep K105q) (g := (mkF m 108 #[vr a1, vr a2, vr a1, vr b101, vi (Grmg1a w0), vi 0, vi 0, vi 1, vr a2, vi (-1 : Int32), vi (Grmg1a (1 : Int32)), vu, vu] [(.int (Grmg1a (1 : Int32))), (.ref a2)])) rfl hml rfl (argsL := [(.int (Grmg1a (1 : Int32)))]) (rest := []) (lenOf pd_5 rfl) rfl rfl rfl (hb hby d20_108) rfl
  refine Done.far st113 ?_
  obtain ⟨A0_113, rfl, N113q, K113q, y113_0, y113_1, y113_2, y113_3, y113_4, hy113_5, hy113_6⟩ := hQ113
  have N113 := Fr.app (Fr.app (Fr.app (Fr.app (Fr.app N0 N105q) N110q) N111q) N112q) N113q
  have f114 := ((F_a1_value.ext E101).keep K105q (ni1 ne106)).keep K113q (ni2 ne_a1_a2 ne_a1_vb)
  have f115 := ((F_a1_intLen.ext E101).keep K105q (ni1 ne106)).keep K113q (ni2 ne_a1_a2 ne_a1_vb)
  have f116 := ((F_a1_offset.ext E101).keep K105q (ni1 ne106)).keep K113q (ni2 ne_a1_a2 ne_a1_vb)
  have f117 := ((A_va.ext E101).keep K105q (ni1 ne107)).keep K113q (ni2 ne_va_a2 ne_va_vb)
  have ne118 := nz (E_a2.ext E101).lt z105_6
  have ne119 := nz (A_vb.ext E101).lt z105_6
  show Aq T113 111 #[vr a1, vr a2, vr a1, vr b101, vi (Grmg1a w0), vi 0, vi 0, vi 1, vr a2, vi (-1 : Int32), vi (Grmg1a (1 : Int32)), vu, vu] []
  obtain rfl : A0_113 = (1 : Int32) := hy113_6 rfl
  show Aq T113 111 #[vr a1, vr a2, vr a1, vr b101, vi (Grmg1a w0), vi 0, vi 0, vi 1, vr a2, vi (-1 : Int32), vi (Grmg1a (1 : Int32)), vu, vu] []
  refine iL X113 hx hby d20_111 rfl ?_
  refine iY X113 hx hby d20_113 (pc' := 122) ((if0 _ _).trans (flt (by decide)).2.2.2) (H := ?_)
  refine aL X113 hx hby d20_122 rfl rfl ?_
  refine aT X113 hx hby d20_124 rfl (l' := #[vr a1, vr a2, vr a1, vr b101, vi (Grmg1a w0), vi 0, vi 0, vi 1, vr a2, vi (-1 : Int32), vi (Grmg1a (1 : Int32)), vu, vu]) rfl ?_
  refine aN X113 hx hby d20_125 rfl rfl ?_
  obtain ⟨T120, X120, e120, st120⟩ := gF X113 hx hZ hown (tw112 hw) rfl f115 (g := (mkF m 126 #[vr a1, vr a2, vr a1, vr b101, vi (Grmg1a w0), vi 0, vi 0, vi 1, vr a2, vi (-1 : Int32), vi (Grmg1a (1 : Int32)), vu, vu] [(.ref a1)])) rfl rfl (hb hby d20_126)
  refine dS st120 ?_
  show Aq T120 129 #[vr a1, vr a2, vr a1, vr b101, vi (Grmg1a w0), vi 0, vi 0, vi 1, vr a2, vi (-1 : Int32), vi (Grmg1a (1 : Int32)), vu, vu] [(.int 1)]
  refine iC X120 hx hby d20_129 (z := 2) rfl ?_
  refine cF X120 hx hby d20_130 (tlt (by decide)).2.1 ?_
  refine aN X120 hx hby d20_133 rfl rfl ?_
  obtain ⟨T121, X121, e121, st121⟩ := gF X120 hx hZ hown (tw112 hw) e120 y113_2 (g := (mkF m 134 #[vr a1, vr a2, vr a1, vr b101, vi (Grmg1a w0), vi 0, vi 0, vi 1, vr a2, vi (-1 : Int32), vi (Grmg1a (1 : Int32)), vu, vu] [(.ref a2)])) rfl rfl (hb hby d20_134)
  refine dS st121 ?_
  show Aq T121 137 #[vr a1, vr a2, vr a1, vr b101, vi (Grmg1a w0), vi 0, vi 0, vi 1, vr a2, vi (-1 : Int32), vi (Grmg1a (1 : Int32)), vu, vu] [(.int 1)]
  refine iC X121 hx hby d20_137 (z := 2) rfl ?_
  refine cF X121 hx hby d20_138 (tlt (by decide)).2.1 ?_
  have ne122 := nz (E_a1.ext E101).lt z105_6
  have ne123 := nz (A_va.ext E101).lt z105_6
  have ne124 := nz A101.lt z105_6
  exact blk141 a1 va a2 vb b101 bv_105 (Grmg1a w0) (0 : Int32) (1 : Int32) (-1 : Int32) (Grmg1a (1 : Int32)) w0 a2 [] X121 hx hZ hw hby hml hown hlk hret hnm N113 (lq (lq (lq Z0 E101.1) K105q.1) K113q.1) e121 (Kk105.trans K113q (allS (Or.inl me2) (allS (Or.inl me3) all0))) f114 f116 f117 y113_1 y113_3 y113_4 (y105_0.keep K113q) (y105_1.keep K113q (ni2 ne108.symm ne109.symm)) (y105_2.keep K113q (ni2 ne108.symm ne109.symm)) (y105_3.keep K113q (ni2 ne108.symm ne109.symm)) (y105_4.keep K113q (ni2 ne118.symm ne119.symm)) (y105_5.keep K113q) (lb Z0 gq101) (lq (lq Z0 E101.1) z105_6) sz_b101 sz_bv_105 ne106.symm ne107.symm ne108.symm ne109.symm ne122.symm ne123.symm ne118.symm ne119.symm ne124 hw0
 ·refine cY X111 hx hby d20_59 (pc' := 66) (feq c1).2 (H := ?_)
  refine iC X111 hx hby d20_66 (z := 0) rfl ?_
  refine sL X111 hx hby d20_67 (l' := #[vr a1, vr a2, vr a1, vr b101, vi (Grmg1a w0), vi 0, vi 0, vi 0, vu, vu, vu, vu, vu]) rfl ?_
  refine iL X111 hx hby d20_69 rfl ?_
  refine iY X111 hx hby d20_71 (pc' := 78) ((if0 _ _).trans (teq (by decide)).1) (H := ?_)
  refine aN X111 hx hby d20_78 rfl rfl ?_
  refine aS X111 hx hby d20_79 rfl (l' := #[vr a1, vr a2, vr a1, vr b101, vi (Grmg1a w0), vi 0, vi 0, vi 0, vr a1, vu, vu, vu, vu]) rfl ?_
  refine iL X111 hx hby d20_81 rfl ?_
  refine iY X111 hx hby d20_83 (pc' := 90) ((if0 _ _).trans (teq (by decide)).1) (H := ?_)
  refine iC X111 hx hby d20_90 (z := 1) rfl ?_
  refine sL X111 hx hby d20_91 (l' := #[vr a1, vr a2, vr a1, vr b101, vi (Grmg1a w0), vi 0, vi 0, vi 0, vr a1, vi 1, vu, vu, vu]) rfl ?_
  refine aL X111 hx hby d20_93 rfl rfl ?_
  obtain ⟨v125, T125, L125, X125, hQ125, st125⟩ := cP X111 hx hZ hown (tw147 hw) (tw148 hw) (tw150 hw) (tw149 hw) (tw102 hw) (tw151 hw) (rmg1a l Z a0 hw [] a1 va w0 T105.heap n0 (lq (lq Z0 E101.1) K105q.1) ((E_a1.ext E101).keep K105q) ((F_a1_value.ext E101).keep K105q (ni1 ne106)) ((F_a1_intLen.ext E101).keep K105q (ni1 ne106)) ((F_a1_offset.ext E101).keep K105q (ni1 ne106)) ((A_va.ext E101).keep K105q (ni1 ne107))) (W := 0) e111 ((E_a1.ext E101).keep K105q) (g := (mkF m 95 #[vr a1, vr a2, vr a1, vr b101, vi (Grmg1a w0), vi 0, vi 0, vi 0, vr a1, vi 1, vu, vu, vu] [(.ref a1)])) rfl hml rfl (argsL := []) (rest := []) (lenOf pd_8 rfl) rfl rfl rfl (hb hby d20_95) rfl
  refine Done.far st125 ?_
  obtain ⟨rfl, N125q, e125⟩ := hQ125
  show Aq T125 98 #[vr a1, vr a2, vr a1, vr b101, vi (Grmg1a w0), vi 0, vi 0, vi 0, vr a1, vi 1, vu, vu, vu] [(.int (Grmg1a w0))]
  refine dU X125 hx hby d20_98 rfl ?_
  refine sL X125 hx hby d20_99 (l' := #[vr a1, vr a2, vr a1, vr b101, vi (Grmg1a w0), vi 0, vi 0, vi 0, vr a1, vi 1, vi (Grmg1a w0), vu, vu]) rfl ?_
  refine iF X125 hx hby d20_101 ((if0 _ _).trans (flt (own_g1nn (own_une hw0))).1) ?_
  obtain ⟨t, ht, h5, h31, -, hle⟩ := own_lb1 (own_une hw0)
  refine aL X125 hx hby d20_104 rfl rfl ?_
  refine iL X125 hx hby d20_106 rfl ?_
  obtain ⟨v126, T126, L126, X126, hQ126, st126⟩ := cV X125 hx hZ hown (tw157 hw) (tw158 hw) (tw160 hw) (tw159 hw) (tw102 hw) (tw161 hw) (rs11 l Z a0 hw [] a1 (Grmg1a w0) va w0 (Int32.ofNat t) t T105.heap n0 (lq (lq Z0 E101.1) K105q.1) ((E_a1.ext E101).keep K105q) ((F_a1_value.ext E101).keep K105q (ni1 ne106)) ((F_a1_intLen.ext E101).keep K105q (ni1 ne106)) ((F_a1_offset.ext E101).keep K105q (ni1 ne106)) ((A_va.ext E101).keep K105q (ni1 ne107)) g_a1 g_va ne_a1_va h5 h31 rfl ht hle (own_une hw0)) (W := 0) e125 ((E_a1.ext E101).keep K105q) (g := (mkF m 108 #[vr a1, vr a2, vr a1, vr b101, vi (Grmg1a w0), vi 0, vi 0, vi 0, vr a1, vi 1, vi (Grmg1a w0), vu, vu] [(.int (Grmg1a w0)), (.ref a1)])) rfl hml rfl (argsL := [(.int (Grmg1a w0))]) (rest := []) (lenOf pd_5 rfl) rfl rfl rfl (hb hby d20_108) rfl
  refine Done.far st126 ?_
  obtain ⟨A0_126, rfl, N126q, K126q, y126_0, y126_1, y126_2, y126_3, y126_4, hy126_5, hy126_6⟩ := hQ126
  have N126 := Fr.app (Fr.app (Fr.app (Fr.app (Fr.app N0 N105q) N110q) N111q) N125q) N126q
  have f127 := ((F_a2_value.ext E101).keep K105q (ni1 ne108)).keep K126q (ni2 ne_a1_a2.symm ne_va_a2.symm)
  have f128 := ((F_a2_intLen.ext E101).keep K105q (ni1 ne108)).keep K126q (ni2 ne_a1_a2.symm ne_va_a2.symm)
  have f129 := ((F_a2_offset.ext E101).keep K105q (ni1 ne108)).keep K126q (ni2 ne_a1_a2.symm ne_va_a2.symm)
  have f130 := ((A_vb.ext E101).keep K105q (ni1 ne109)).keep K126q (ni2 ne_a1_vb.symm ne_va_vb.symm)
  have ne131 := nz (E_a1.ext E101).lt z105_6
  have ne132 := nz (A_va.ext E101).lt z105_6
  show Aq T126 111 #[vr a1, vr a2, vr a1, vr b101, vi (Grmg1a w0), vi 0, vi 0, vi 0, vr a1, vi 1, vi (Grmg1a w0), vu, vu] []
  refine iL X126 hx hby d20_111 rfl ?_
  refine iF X126 hx hby d20_113 ((if0 _ _).trans (tlt (by decide)).2.2.2) ?_
  refine aL X126 hx hby d20_116 rfl rfl ?_
  refine aT X126 hx hby d20_118 rfl (l' := #[vr a1, vr a2, vr a1, vr b101, vi (Grmg1a w0), vi 0, vi 0, vi 0, vr a1, vi 1, vi (Grmg1a w0), vu, vu]) rfl ?_
  refine gO X126 hx hby d20_119 (pc' := 125) (H := ?_)
  refine aN X126 hx hby d20_125 rfl rfl ?_
  obtain ⟨T133, X133, e133, st133⟩ := gF X126 hx hZ hown (tw112 hw) rfl y126_2 (g := (mkF m 126 #[vr a1, vr a2, vr a1, vr b101, vi (Grmg1a w0), vi 0, vi 0, vi 0, vr a1, vi 1, vi (Grmg1a w0), vu, vu] [(.ref a1)])) rfl rfl (hb hby d20_126)
  refine dS st133 ?_
  show Aq T133 129 #[vr a1, vr a2, vr a1, vr b101, vi (Grmg1a w0), vi 0, vi 0, vi 0, vr a1, vi 1, vi (Grmg1a w0), vu, vu] [(.int 1)]
  refine iC X133 hx hby d20_129 (z := 2) rfl ?_
  refine cF X133 hx hby d20_130 (tlt (by decide)).2.1 ?_
  refine aN X133 hx hby d20_133 rfl rfl ?_
  obtain ⟨T134, X134, e134, st134⟩ := gF X133 hx hZ hown (tw112 hw) e133 f128 (g := (mkF m 134 #[vr a1, vr a2, vr a1, vr b101, vi (Grmg1a w0), vi 0, vi 0, vi 0, vr a1, vi 1, vi (Grmg1a w0), vu, vu] [(.ref a2)])) rfl rfl (hb hby d20_134)
  refine dS st134 ?_
  show Aq T134 137 #[vr a1, vr a2, vr a1, vr b101, vi (Grmg1a w0), vi 0, vi 0, vi 0, vr a1, vi 1, vi (Grmg1a w0), vu, vu] [(.int 1)]
  refine iC X134 hx hby d20_137 (z := 2) rfl ?_
  refine cF X134 hx hby d20_138 (tlt (by decide)).2.1 ?_
  have ne135 := nz (E_a2.ext E101).lt z105_6
  have ne136 := nz (A_vb.ext E101).lt z105_6
  have ne137 := nz A101.lt z105_6
  exact blk141 a1 va a2 vb b101 bv_105 (Grmg1a w0) (0 : Int32) (0 : Int32) (1 : Int32) (Grmg1a w0) A0_126 a1 [] X134 hx hZ hw hby hml hown hlk hret hnm N126 (lq (lq (lq Z0 E101.1) K105q.1) K126q.1) e134 (Kk105.trans K126q (allS (Or.inl me0) (allS (Or.inl me1) all0))) y126_1 y126_3 y126_4 f127 f129 f130 (y105_0.keep K126q) (y105_1.keep K126q (ni2 ne106.symm ne107.symm)) (y105_2.keep K126q (ni2 ne106.symm ne107.symm)) (y105_3.keep K126q (ni2 ne106.symm ne107.symm)) (y105_4.keep K126q (ni2 ne131.symm ne132.symm)) (y105_5.keep K126q) (lb Z0 gq101) (lq (lq Z0 E101.1) z105_6) sz_b101 sz_bv_105 ne106.symm ne107.symm ne108.symm ne109.symm ne131.symm ne132.symm ne135.symm ne136.symm ne137 hy126_5
theorem lp203 {p : Program} {l : Launch} {e : Env} {s : State} {m : MethodId} {args : Array Value} {below : List Frame} {meth : Method} {c : Code} {Z : State} {a0 : Array Value} {n0 : Nat} {hO : Heap} (a1 va a2 vb a3 rv : Addr) (x4 x5 x7 : Int32)
  (hx : p.tables.exec = Jvm.exec) (hZ : Z.Warmed39 s.vm) (hw : HH a0 Z) (hby : c.code = jdk_2101_method_73_code) (hml : c.maxLocals = 13) (hown : s.vm.findClass "java/math/MutableBigInteger" = some m.cls) (hlk : meth.locks = false) (hret : meth.sig.returnType = (some (.object "java/math/MutableBigInteger") : Option FieldType)) (hnm : meth.name = "binaryGCD") (g_a1 : n0 ≤ a1) (g_va : n0 ≤ va) (g_a2 : n0 ≤ a2) (g_vb : n0 ≤ vb) (g_a3 : n0 ≤ a3) (g_rv : n0 ≤ rv) (sz_a3 : hO.size ≤ a3) (sz_rv : hO.size ≤ rv) (ne_a1_va : a1 ≠ va) (ne_a1_a2 : a1 ≠ a2) (ne_a1_vb : a1 ≠ vb) (ne_a1_a3 : a1 ≠ a3) (ne_a1_rv : a1 ≠ rv) (ne_va_a2 : va ≠ a2) (ne_va_vb : va ≠ vb) (ne_va_a3 : va ≠ a3) (ne_va_rv : va ≠ rv) (ne_a2_vb : a2 ≠ vb) (ne_a2_a3 : a2 ≠ a3) (ne_a2_rv : a2 ≠ rv) (ne_vb_a3 : vb ≠ a3) (ne_vb_rv : vb ≠ rv) (ne_a3_rv : a3 ≠ rv) :
  ∀ (k : Nat) (T : State) (locs : List Loc) (h0 : Heap) (hi : Int32) (lo : Int32) (t8 : Addr) (x9 : Int32) (x10 : Int32) (X0 : Stand p l e ({ frames := 3, cells := 2, slots := 4, locals := 42 } : Room) s m args below meth c T locs 2 4) (N0 : Fr n0 locs) (Z0 : n0 ≤ h0.size) (e0 : T.heap = h0) (K0 : Keep hO h0 [a1, va, a2, vb]) (E_a1 : Fl3 Z h0 a1) (F_a1_value : Fl0 Z h0 a1 (.ref va)) (F_a1_intLen : Fl1 Z h0 a1 (.int 2)) (F_a1_offset : Fl2 Z h0 a1 (.int 0)) (A_va : Ax Z h0 va .int [(.int hi), (.int lo)]) (E_a2 : Fl3 Z h0 a2) (F_a2_value : Fl0 Z h0 a2 (.ref vb)) (F_a2_intLen : Fl1 Z h0 a2 (.int 1)) (F_a2_offset : Fl2 Z h0 a2 (.int 0)) (A_vb : Ax Z h0 vb .int [(.int 1)]) (E_a3 : Fl3 Z h0 a3) (F_a3_value : Fl0 Z h0 a3 (.ref rv)) (F_a3_intLen : Fl1 Z h0 a3 (.int 0)) (F_a3_offset : Fl2 Z h0 a3 (.int 0)) (A_rv : Ax Z h0 rv .int [(.int 0)]) (E_rv : Fl4 Z h0 rv) (hk : MM hi lo < k) (hhi : ¬ hi = (0 : Int32)) (hodd : U lo % 2 = 1), Done p e below s (fun v h L => ∃ (r0 : Addr) (rv : Addr), v = some (.ref r0) ∧ Fr n0 L ∧ Keep hO h [a1, va, a2, vb] ∧ Fl3 Z h r0 ∧ Fl0 Z h r0 (.ref rv) ∧ Fl1 Z h r0 (.int 1) ∧ Fl2 Z h r0 (.int 0) ∧ Ax Z h rv .int [(.int 1)] ∧ Fl4 Z h rv ∧ hO.size ≤ r0 ∧ hO.size ≤ rv ∧ r0 ≠ rv) ({ frames := 3, cells := 2, slots := 4, locals := 42 } : Room).cells ({ frames := 3, cells := 2, slots := 4, locals := 42 } : Room).slots (T.setTop (mkF m 203 #[vr a1, vr a2, vr a1, vr a3, vi x4, vi x5, vi 0, vi x7, vr t8, vi x9, vi x10, vu, vu] [])) := by
 intro k
 induction k with
 | zero => intro T locs h0 hi lo t8 x9 x10 X0 N0 Z0 e0 K0 E_a1 F_a1_value F_a1_intLen F_a1_offset A_va E_a2 F_a2_value F_a2_intLen F_a2_offset A_vb E_a3 F_a3_value F_a3_intLen F_a3_offset A_rv E_rv hk hhi hodd; exact absurd hk (Nat.not_lt_zero _)
 | succ k ih =>
  intro T locs h0 hi lo t8 x9 x10 X0 N0 Z0 e0 K0 E_a1 F_a1_value F_a1_intLen F_a1_offset A_va E_a2 F_a2_value F_a2_intLen F_a2_offset A_vb E_a3 F_a3_value F_a3_intLen F_a3_offset A_rv E_rv hk hhi hodd
  show Aq T 203 #[vr a1, vr a2, vr a1, vr a3, vi x4, vi x5, vi 0, vi x7, vr t8, vi x9, vi x10, vu, vu] []
  refine aN X0 hx hby d20_203 rfl rfl ?_
  refine aN X0 hx hby d20_204 rfl rfl ?_
  obtain ⟨v101, T101, L101, X101, hQ101, st101⟩ := cP X0 hx hZ hown (tw267 hw) (tw268 hw) (tw270 hw) (tw269 hw) (tw102 hw) (tw271 hw) (dif l Z a0 hw [] a1 a2 va hi lo vb h0 n0 Z0 E_a1 F_a1_value F_a1_intLen F_a1_offset A_va E_a2 F_a2_value F_a2_intLen F_a2_offset A_vb g_va ne_a1_va ne_va_a2.symm ne_va_vb.symm hhi hodd) (W := 0) e0 E_a1 (g := (mkF m 205 #[vr a1, vr a2, vr a1, vr a3, vi x4, vi x5, vi 0, vi x7, vr t8, vi x9, vi x10, vu, vu] [(.ref a2), (.ref a1)])) rfl hml rfl (argsL := [(.ref a2)]) (rest := []) (lenOf pd_6 rfl) rfl rfl rfl (hb hby d20_205) rfl
  refine Done.far st101 ?_
  obtain ⟨rfl, N101q, K101q, y101_0⟩ := hQ101
  show Aq T101 208 #[vr a1, vr a2, vr a1, vr a3, vi x4, vi x5, vi 0, vi x7, vr t8, vi x9, vi x10, vu, vu] [(.int 1)]
  refine dU X101 hx hby d20_208 rfl ?_
  refine sL X101 hx hby d20_209 (l' := #[vr a1, vr a2, vr a1, vr a3, vi x4, vi x5, vi 0, vi x7, vr t8, vi 1, vi x10, vu, vu]) rfl ?_
  refine iY X101 hx hby d20_211 (pc' := 217) ((if0 _ _).trans (feq (by decide)).2) (H := ?_)
  refine iL X101 hx hby d20_217 rfl ?_
  refine iF X101 hx hby d20_219 ((if0 _ _).trans (flt (by decide)).1) ?_
  refine aN X101 hx hby d20_222 rfl rfl ?_
  refine gO X101 hx hby d20_223 (pc' := 227) (H := ?_)
  refine aS X101 hx hby d20_227 rfl (l' := #[vr a1, vr a2, vr a1, vr a3, vi x4, vi x5, vi 0, vi x7, vr a1, vi 1, vi x10, vu, vu]) rfl ?_
  refine gO X101 hx hby d20_229 (pc' := 93) (H := ?_)
  refine aL X101 hx hby d20_93 rfl rfl ?_
  obtain ⟨v102, T102, L102, X102, hQ102, st102⟩ := cP X101 hx hZ hown (tw147 hw) (tw148 hw) (tw150 hw) (tw149 hw) (tw102 hw) (tw151 hw) (rmg2 l Z a0 hw [] a1 va hi (lo - (1 : Int32)) T101.heap n0 (lq Z0 K101q.1) (E_a1.keep K101q) (F_a1_value.keep K101q (ni1 ne_a1_va)) (F_a1_intLen.keep K101q (ni1 ne_a1_va)) (F_a1_offset.keep K101q (ni1 ne_a1_va)) y101_0) (W := 0) rfl (E_a1.keep K101q) (g := (mkF m 95 #[vr a1, vr a2, vr a1, vr a3, vi x4, vi x5, vi 0, vi x7, vr a1, vi 1, vi x10, vu, vu] [(.ref a1)])) rfl hml rfl (argsL := []) (rest := []) (lenOf pd_8 rfl) rfl rfl rfl (hb hby d20_95) rfl
  refine Done.far st102 ?_
  obtain ⟨rfl, N102q, e102⟩ := hQ102
  show Aq T102 98 #[vr a1, vr a2, vr a1, vr a3, vi x4, vi x5, vi 0, vi x7, vr a1, vi 1, vi x10, vu, vu] [(.int (Grmg2 hi (lo - (1 : Int32))))]
  refine dU X102 hx hby d20_98 rfl ?_
  refine sL X102 hx hby d20_99 (l' := #[vr a1, vr a2, vr a1, vr a3, vi x4, vi x5, vi 0, vi x7, vr a1, vi 1, vi (Grmg2 hi (lo - (1 : Int32))), vu, vu]) rfl ?_
  refine iF X102 hx hby d20_101 ((if0 _ _).trans (flt (own_g2nn (own_une hhi))).1) ?_
  by_cases c1 : (lo - (1 : Int32)) = (0 : Int32)
  ·obtain ⟨t, ht, h5, h31, -, hle⟩ := own_lb2b c1 (own_une hhi)
   refine aL X102 hx hby d20_104 rfl rfl ?_
   refine iL X102 hx hby d20_106 rfl ?_
   obtain ⟨v103, T103, L103, X103, hQ103, st103⟩ := cV X102 hx hZ hown (tw157 hw) (tw158 hw) (tw160 hw) (tw159 hw) (tw102 hw) (tw161 hw) (rs22b l Z a0 hw [] a1 (Grmg2 hi (lo - (1 : Int32))) va hi (lo - (1 : Int32)) (Int32.ofNat t) t T101.heap n0 (lq Z0 K101q.1) (E_a1.keep K101q) (F_a1_value.keep K101q (ni1 ne_a1_va)) (F_a1_intLen.keep K101q (ni1 ne_a1_va)) (F_a1_offset.keep K101q (ni1 ne_a1_va)) y101_0 g_a1 g_va ne_a1_va h5 h31 rfl ht hle (own_une hhi)) (W := 0) e102 (E_a1.keep K101q) (g := (mkF m 108 #[vr a1, vr a2, vr a1, vr a3, vi x4, vi x5, vi 0, vi x7, vr a1, vi 1, vi (Grmg2 hi (lo - (1 : Int32))), vu, vu] [(.int (Grmg2 hi (lo - (1 : Int32)))), (.ref a1)])) rfl hml rfl (argsL := [(.int (Grmg2 hi (lo - (1 : Int32))))]) (rest := []) (lenOf pd_5 rfl) rfl rfl rfl (hb hby d20_108) rfl
   refine Done.far st103 ?_
   obtain ⟨A0_103, rfl, N103q, K103q, y103_0, y103_1, y103_2, y103_3, y103_4, hy103_5⟩ := hQ103
   have f104 := (F_a2_value.keep K101q (ni1 ne_va_a2.symm)).keep K103q (ni2 ne_a1_a2.symm ne_va_a2.symm)
   have f105 := (F_a2_intLen.keep K101q (ni1 ne_va_a2.symm)).keep K103q (ni2 ne_a1_a2.symm ne_va_a2.symm)
   have f106 := (F_a2_offset.keep K101q (ni1 ne_va_a2.symm)).keep K103q (ni2 ne_a1_a2.symm ne_va_a2.symm)
   have f107 := (A_vb.keep K101q (ni1 ne_va_vb.symm)).keep K103q (ni2 ne_a1_vb.symm ne_va_vb.symm)
   have f108 := (F_a3_value.keep K101q (ni1 ne_va_a3.symm)).keep K103q (ni2 ne_a1_a3.symm ne_va_a3.symm)
   have f109 := (F_a3_intLen.keep K101q (ni1 ne_va_a3.symm)).keep K103q (ni2 ne_a1_a3.symm ne_va_a3.symm)
   have f110 := (F_a3_offset.keep K101q (ni1 ne_va_a3.symm)).keep K103q (ni2 ne_a1_a3.symm ne_va_a3.symm)
   have f111 := (A_rv.keep K101q (ni1 ne_va_rv.symm)).keep K103q (ni2 ne_a1_rv.symm ne_va_rv.symm)
   have Kk103 := (K0.trans K101q (allS (Or.inl me1) all0)).trans K103q (allS (Or.inl me0) (allS (Or.inl me1) all0))
   show Aq T103 111 #[vr a1, vr a2, vr a1, vr a3, vi x4, vi x5, vi 0, vi x7, vr a1, vi 1, vi (Grmg2 hi (lo - (1 : Int32))), vu, vu] []
   refine iL X103 hx hby d20_111 rfl ?_
   refine iF X103 hx hby d20_113 ((if0 _ _).trans (tlt (by decide)).2.2.2) ?_
   refine aL X103 hx hby d20_116 rfl rfl ?_
   refine aT X103 hx hby d20_118 rfl (l' := #[vr a1, vr a2, vr a1, vr a3, vi x4, vi x5, vi 0, vi x7, vr a1, vi 1, vi (Grmg2 hi (lo - (1 : Int32))), vu, vu]) rfl ?_
   refine gO X103 hx hby d20_119 (pc' := 125) (H := ?_)
   refine aN X103 hx hby d20_125 rfl rfl ?_
   obtain ⟨T112, X112, e112, st112⟩ := gF X103 hx hZ hown (tw112 hw) rfl y103_2 (g := (mkF m 126 #[vr a1, vr a2, vr a1, vr a3, vi x4, vi x5, vi 0, vi x7, vr a1, vi 1, vi (Grmg2 hi (lo - (1 : Int32))), vu, vu] [(.ref a1)])) rfl rfl (hb hby d20_126)
   refine dS st112 ?_
   show Aq T112 129 #[vr a1, vr a2, vr a1, vr a3, vi x4, vi x5, vi 0, vi x7, vr a1, vi 1, vi (Grmg2 hi (lo - (1 : Int32))), vu, vu] [(.int 1)]
   refine iC X112 hx hby d20_129 (z := 2) rfl ?_
   refine cF X112 hx hby d20_130 (tlt (by decide)).2.1 ?_
   refine aN X112 hx hby d20_133 rfl rfl ?_
   obtain ⟨T113, X113, e113, st113⟩ := gF X112 hx hZ hown (tw112 hw) e112 f105 (g := (mkF m 134 #[vr a1, vr a2, vr a1, vr a3, vi x4, vi x5, vi 0, vi x7, vr a1, vi 1, vi (Grmg2 hi (lo - (1 : Int32))), vu, vu] [(.ref a2)])) rfl rfl (hb hby d20_134)
   refine dS st113 ?_
   show Aq T113 137 #[vr a1, vr a2, vr a1, vr a3, vi x4, vi x5, vi 0, vi x7, vr a1, vi 1, vi (Grmg2 hi (lo - (1 : Int32))), vu, vu] [(.int 1)]
   refine iC X113 hx hby d20_137 (z := 2) rfl ?_
   refine cF X113 hx hby d20_138 (tlt (by decide)).2.1 ?_
   exact blk141 a1 va a2 vb a3 rv x4 x5 x7 (1 : Int32) (Grmg2 hi (lo - (1 : Int32))) A0_103 a1 [(.int (lo - (1 : Int32)))] X113 hx hZ hw hby hml hown hlk hret hnm (Fr.app (Fr.app (Fr.app N0 N101q) N102q) N103q) (lq (lq Z0 K101q.1) K103q.1) e113 Kk103 y103_1 y103_3 y103_4 f104 f106 f107 ((E_a3.keep K101q).keep K103q) f108 f109 f110 f111 ((E_rv.keep K101q).keep K103q) g_a3 g_rv sz_a3 sz_rv ne_a1_a3.symm ne_va_a3.symm ne_a2_a3.symm ne_vb_a3.symm ne_a1_rv.symm ne_va_rv.symm ne_a2_rv.symm ne_vb_rv.symm ne_a3_rv hy103_5
  ·obtain ⟨t, ht, h5, h31, -, hod⟩ := own_lb2a (x := hi) c1
   refine aL X102 hx hby d20_104 rfl rfl ?_
   refine iL X102 hx hby d20_106 rfl ?_
   obtain ⟨v114, T114, L114, X114, hQ114, st114⟩ := cV X102 hx hZ hown (tw157 hw) (tw158 hw) (tw160 hw) (tw159 hw) (tw102 hw) (tw161 hw) (rs22a l Z a0 hw [] a1 (Grmg2 hi (lo - (1 : Int32))) va hi (lo - (1 : Int32)) (Int32.ofNat t) t T101.heap n0 (lq Z0 K101q.1) (E_a1.keep K101q) (F_a1_value.keep K101q (ni1 ne_a1_va)) (F_a1_intLen.keep K101q (ni1 ne_a1_va)) (F_a1_offset.keep K101q (ni1 ne_a1_va)) y101_0 g_a1 g_va ne_a1_va h5 h31 rfl ht hod (own_une hhi)) (W := 0) e102 (E_a1.keep K101q) (g := (mkF m 108 #[vr a1, vr a2, vr a1, vr a3, vi x4, vi x5, vi 0, vi x7, vr a1, vi 1, vi (Grmg2 hi (lo - (1 : Int32))), vu, vu] [(.int (Grmg2 hi (lo - (1 : Int32)))), (.ref a1)])) rfl hml rfl (argsL := [(.int (Grmg2 hi (lo - (1 : Int32))))]) (rest := []) (lenOf pd_5 rfl) rfl rfl rfl (hb hby d20_108) rfl
   refine Done.far st114 ?_
   obtain ⟨A0_114, B0_114, rfl, N114q, K114q, y114_0, y114_1, y114_2, y114_3, hy114_4⟩ := hQ114
   have f115 := (F_a2_value.keep K101q (ni1 ne_va_a2.symm)).keep K114q (ni2 ne_a1_a2.symm ne_va_a2.symm)
   have f116 := (F_a2_intLen.keep K101q (ni1 ne_va_a2.symm)).keep K114q (ni2 ne_a1_a2.symm ne_va_a2.symm)
   have f117 := (F_a2_offset.keep K101q (ni1 ne_va_a2.symm)).keep K114q (ni2 ne_a1_a2.symm ne_va_a2.symm)
   have f118 := (A_vb.keep K101q (ni1 ne_va_vb.symm)).keep K114q (ni2 ne_a1_vb.symm ne_va_vb.symm)
   have f119 := (F_a3_value.keep K101q (ni1 ne_va_a3.symm)).keep K114q (ni2 ne_a1_a3.symm ne_va_a3.symm)
   have f120 := (F_a3_intLen.keep K101q (ni1 ne_va_a3.symm)).keep K114q (ni2 ne_a1_a3.symm ne_va_a3.symm)
   have f121 := (F_a3_offset.keep K101q (ni1 ne_va_a3.symm)).keep K114q (ni2 ne_a1_a3.symm ne_va_a3.symm)
   have f122 := (A_rv.keep K101q (ni1 ne_va_rv.symm)).keep K114q (ni2 ne_a1_rv.symm ne_va_rv.symm)
   have Kk114 := (K0.trans K101q (allS (Or.inl me1) all0)).trans K114q (allS (Or.inl me0) (allS (Or.inl me1) all0))
   show Aq T114 111 #[vr a1, vr a2, vr a1, vr a3, vi x4, vi x5, vi 0, vi x7, vr a1, vi 1, vi (Grmg2 hi (lo - (1 : Int32))), vu, vu] []
   obtain ⟨f123, f123A, f123B, f123M⟩ | ⟨f123, f123A⟩ := hy114_4
   ·show Aq T114 111 #[vr a1, vr a2, vr a1, vr a3, vi x4, vi x5, vi 0, vi x7, vr a1, vi 1, vi (Grmg2 hi (lo - (1 : Int32))), vu, vu] []
    refine iL X114 hx hby d20_111 rfl ?_
    refine iF X114 hx hby d20_113 ((if0 _ _).trans (tlt (by decide)).2.2.2) ?_
    refine aL X114 hx hby d20_116 rfl rfl ?_
    refine aT X114 hx hby d20_118 rfl (l' := #[vr a1, vr a2, vr a1, vr a3, vi x4, vi x5, vi 0, vi x7, vr a1, vi 1, vi (Grmg2 hi (lo - (1 : Int32))), vu, vu]) rfl ?_
    refine gO X114 hx hby d20_119 (pc' := 125) (H := ?_)
    refine aN X114 hx hby d20_125 rfl rfl ?_
    obtain ⟨T124, X124, e124, st124⟩ := gF X114 hx hZ hown (tw112 hw) rfl f123 (g := (mkF m 126 #[vr a1, vr a2, vr a1, vr a3, vi x4, vi x5, vi 0, vi x7, vr a1, vi 1, vi (Grmg2 hi (lo - (1 : Int32))), vu, vu] [(.ref a1)])) rfl rfl (hb hby d20_126)
    refine dS st124 ?_
    show Aq T124 129 #[vr a1, vr a2, vr a1, vr a3, vi x4, vi x5, vi 0, vi x7, vr a1, vi 1, vi (Grmg2 hi (lo - (1 : Int32))), vu, vu] [(.int 2)]
    refine iC X124 hx hby d20_129 (z := 2) rfl ?_
    refine cY X124 hx hby d20_130 (pc' := 203) (flt (by decide)).2.1 (H := ?_)
    exact ih T124 _ T114.heap A0_114 B0_114 a1 (1 : Int32) (Grmg2 hi (lo - (1 : Int32))) X124 (Fr.app (Fr.app (Fr.app N0 N101q) N102q) N114q) (lq (lq Z0 K101q.1) K114q.1) e124 Kk114 y114_0 y114_1 f123 y114_2 y114_3 ((E_a2.keep K101q).keep K114q) f115 f116 f117 f118 ((E_a3.keep K101q).keep K114q) f119 f120 f121 f122 ((E_rv.keep K101q).keep K114q) (Nat.lt_of_le_of_lt f123M (Nat.lt_of_lt_of_le (own_mlt hodd) (Nat.le_of_lt_succ hk))) f123A f123B
   ·show Aq T114 111 #[vr a1, vr a2, vr a1, vr a3, vi x4, vi x5, vi 0, vi x7, vr a1, vi 1, vi (Grmg2 hi (lo - (1 : Int32))), vu, vu] []
    refine iL X114 hx hby d20_111 rfl ?_
    refine iF X114 hx hby d20_113 ((if0 _ _).trans (tlt (by decide)).2.2.2) ?_
    refine aL X114 hx hby d20_116 rfl rfl ?_
    refine aT X114 hx hby d20_118 rfl (l' := #[vr a1, vr a2, vr a1, vr a3, vi x4, vi x5, vi 0, vi x7, vr a1, vi 1, vi (Grmg2 hi (lo - (1 : Int32))), vu, vu]) rfl ?_
    refine gO X114 hx hby d20_119 (pc' := 125) (H := ?_)
    refine aN X114 hx hby d20_125 rfl rfl ?_
    obtain ⟨T125, X125, e125, st125⟩ := gF X114 hx hZ hown (tw112 hw) rfl f123 (g := (mkF m 126 #[vr a1, vr a2, vr a1, vr a3, vi x4, vi x5, vi 0, vi x7, vr a1, vi 1, vi (Grmg2 hi (lo - (1 : Int32))), vu, vu] [(.ref a1)])) rfl rfl (hb hby d20_126)
    refine dS st125 ?_
    show Aq T125 129 #[vr a1, vr a2, vr a1, vr a3, vi x4, vi x5, vi 0, vi x7, vr a1, vi 1, vi (Grmg2 hi (lo - (1 : Int32))), vu, vu] [(.int 1)]
    refine iC X125 hx hby d20_129 (z := 2) rfl ?_
    refine cF X125 hx hby d20_130 (tlt (by decide)).2.1 ?_
    refine aN X125 hx hby d20_133 rfl rfl ?_
    obtain ⟨T126, X126, e126, st126⟩ := gF X125 hx hZ hown (tw112 hw) e125 f116 (g := (mkF m 134 #[vr a1, vr a2, vr a1, vr a3, vi x4, vi x5, vi 0, vi x7, vr a1, vi 1, vi (Grmg2 hi (lo - (1 : Int32))), vu, vu] [(.ref a2)])) rfl rfl (hb hby d20_134)
    refine dS st126 ?_
    show Aq T126 137 #[vr a1, vr a2, vr a1, vr a3, vi x4, vi x5, vi 0, vi x7, vr a1, vi 1, vi (Grmg2 hi (lo - (1 : Int32))), vu, vu] [(.int 1)]
    refine iC X126 hx hby d20_137 (z := 2) rfl ?_
    refine cF X126 hx hby d20_138 (tlt (by decide)).2.1 ?_
    exact blk141 a1 va a2 vb a3 rv x4 x5 x7 (1 : Int32) (Grmg2 hi (lo - (1 : Int32))) A0_114 a1 [(.int B0_114)] X126 hx hZ hw hby hml hown hlk hret hnm (Fr.app (Fr.app (Fr.app N0 N101q) N102q) N114q) (lq (lq Z0 K101q.1) K114q.1) e126 Kk114 y114_1 y114_2 y114_3 f115 f117 f118 ((E_a3.keep K101q).keep K114q) f119 f120 f121 f122 ((E_rv.keep K101q).keep K114q) g_a3 g_rv sz_a3 sz_rv ne_a1_a3.symm ne_va_a3.symm ne_a2_a3.symm ne_vb_a3.symm ne_a1_rv.symm ne_va_rv.symm ne_a2_rv.symm ne_vb_rv.symm ne_a3_rv f123A
theorem bg2 (l : Launch) (Z : State) (a0 : Array Value) (hw : HH a0 Z) (ws : List Jvm.Cond) (a1 a2 va vb : Addr) (w0 w1 : Int32) (h0 : Heap) (n0 : Nat) (Z0 : n0 ≤ h0.size) (E_a1 : Fl3 Z h0 a1) (F_a1_value : Fl0 Z h0 a1 (.ref va)) (F_a1_intLen : Fl1 Z h0 a1 (.int 2)) (F_a1_offset : Fl2 Z h0 a1 (.int 0)) (A_va : Ax Z h0 va .int [(.int w0), (.int w1)]) (E_a2 : Fl3 Z h0 a2) (F_a2_value : Fl0 Z h0 a2 (.ref vb)) (F_a2_intLen : Fl1 Z h0 a2 (.int 1)) (F_a2_offset : Fl2 Z h0 a2 (.int 0)) (A_vb : Ax Z h0 vb .int [(.int 1)]) (g_a1 : n0 ≤ a1) (g_va : n0 ≤ va) (g_a2 : n0 ≤ a2) (g_vb : n0 ≤ vb) (ne_a1_va : a1 ≠ va) (ne_a1_a2 : a1 ≠ a2) (ne_a1_vb : a1 ≠ vb) (ne_va_a2 : va ≠ a2) (ne_va_vb : va ≠ vb) (ne_a2_vb : a2 ≠ vb) (hw0 : ¬ w0 = (0 : Int32)) : MF l "java/math/MutableBigInteger" "binaryGCD" "(Ljava/math/MutableBigInteger;)Ljava/math/MutableBigInteger;" jdk_2101_method_73_code 13 (some (.object "java/math/MutableBigInteger")) ws ⟨3, 2, 4, 42⟩ Z h0 #[(.ref a1), (.ref a2)] (fun v h L => ∃ (r0 rv : Addr), v = some (.ref r0) ∧ Fr n0 L ∧ Keep h0 h [a1, va, a2, vb] ∧ Fl3 Z h r0 ∧ Fl0 Z h r0 (.ref rv) ∧ Fl1 Z h r0 (.int 1) ∧ Fl2 Z h r0 (.int 0) ∧ Ax Z h rv .int [(.int 1)] ∧ Fl4 Z h rv ∧ h0.size ≤ r0 ∧ h0.size ≤ rv ∧ r0 ≠ rv) := by
 refine own_body (n0 := n0) (plainFor_of_name pn_27) (fun m => ef_20 m a1 a2) ?_
 intro p e s m below meth c s₁ hZ hx hby hml hown hlk hret hnm X0 e0 N0
 show Aq s₁ 0 #[vr a1, vr a2, vu, vu, vu, vu, vu, vu, vu, vu, vu, vu, vu] []
 refine aN X0 hx hby d20_0 rfl rfl ?_
 refine aT X0 hx hby d20_1 rfl (l' := #[vr a1, vr a2, vr a1, vu, vu, vu, vu, vu, vu, vu, vu, vu, vu]) rfl ?_
 obtain ⟨T101, h101, X101, e101, E101, A101, D101, -, st101⟩ := newO X0 hx hZ hown (tw134 hw) (tw101 hw) (tw102 hw) e0 (g := (mkF m 2 #[vr a1, vr a2, vr a1, vu, vu, vu, vu, vu, vu, vu, vu, vu, vu] [])) rfl (hb hby d20_2) (by decide) (by decide)
 obtain ⟨b101, gq101⟩ : ∃ z, z = h0.size := ⟨_, rfl⟩
 rw [← gq101] at A101 D101 st101
 have sz_b101 := lb (kr h0 [a1, va, a2, vb]).1 gq101
 have f102 : Fl2 Z h101 b101 (.int 0) := D101 (Or.inl (tw109 hw)) (ty := .int) (by decide)
 have f103 : Fl1 Z h101 b101 (.int 0) := D101 (Or.inl (tw113 hw)) (ty := .int) (by decide)
 have f104 : Fl0 Z h101 b101 .null := D101 (Or.inl (tw128 hw)) (ty := (.array .int)) (by decide)
 refine dS st101 ?_
 show Aq T101 5 #[vr a1, vr a2, vr a1, vu, vu, vu, vu, vu, vu, vu, vu, vu, vu] [(.ref b101)]
 refine dU X101 hx hby d20_5 rfl ?_
 obtain ⟨v105, T105, L105, X105, hQ105, st105⟩ := cI X101 hx hZ hown (tw135 hw) (tw136 hw) (tw102 hw) (tw137 hw) (mi0 l Z a0 hw [] b101  h101 n0 (lq Z0 E101.1) A101 f104 f103 f102 (lb Z0 gq101)) (W := 1) e101 (g := (mkF m 6 #[vr a1, vr a2, vr a1, vu, vu, vu, vu, vu, vu, vu, vu, vu, vu] [(.ref b101), (.ref b101)])) rfl hml rfl (argsL := []) (rest := [(.ref b101)]) (lenOf pd_2 rfl) rfl rfl rfl (hb hby d20_6) rfl
 refine Done.far st105 ?_
 obtain ⟨bv_105, rfl, N105q, K105q, y105_0, y105_1, y105_2, y105_3, y105_4, y105_5, z105_6⟩ := hQ105
 have sz_bv_105 := lq ((kr h0 [a1, va, a2, vb]).ext E101).1 z105_6
 have ne106 := nl E_a1.lt gq101
 have ne107 := nl A_va.lt gq101
 have ne108 := nl E_a2.lt gq101
 have ne109 := nl A_vb.lt gq101
 have Kk105 := ((kr h0 [a1, va, a2, vb]).ext E101).trans K105q (allS (Or.inr sz_b101) all0)
 show Aq T105 9 #[vr a1, vr a2, vr a1, vu, vu, vu, vu, vu, vu, vu, vu, vu, vu] [(.ref b101)]
 refine aT X105 hx hby d20_9 rfl (l' := #[vr a1, vr a2, vr a1, vr b101, vu, vu, vu, vu, vu, vu, vu, vu, vu]) rfl ?_
 refine aN X105 hx hby d20_10 rfl rfl ?_
 obtain ⟨v110, T110, L110, X110, hQ110, st110⟩ := cP X105 hx hZ hown (tw147 hw) (tw148 hw) (tw150 hw) (tw149 hw) (tw102 hw) (tw151 hw) (rmg2 l Z a0 hw [] a1 va w0 w1 T105.heap n0 (lq (lq Z0 E101.1) K105q.1) ((E_a1.ext E101).keep K105q) ((F_a1_value.ext E101).keep K105q (ni1 ne106)) ((F_a1_intLen.ext E101).keep K105q (ni1 ne106)) ((F_a1_offset.ext E101).keep K105q (ni1 ne106)) ((A_va.ext E101).keep K105q (ni1 ne107))) (W := 0) rfl ((E_a1.ext E101).keep K105q) (g := (mkF m 11 #[vr a1, vr a2, vr a1, vr b101, vu, vu, vu, vu, vu, vu, vu, vu, vu] [(.ref a1)])) rfl hml rfl (argsL := []) (rest := []) (lenOf pd_8 rfl) rfl rfl rfl (hb hby d20_11) rfl
 refine Done.far st110 ?_
 obtain ⟨rfl, N110q, e110⟩ := hQ110
 show Aq T110 14 #[vr a1, vr a2, vr a1, vr b101, vu, vu, vu, vu, vu, vu, vu, vu, vu] [(.int (Grmg2 w0 w1))]
 refine sL X110 hx hby d20_14 (l' := #[vr a1, vr a2, vr a1, vr b101, vi (Grmg2 w0 w1), vu, vu, vu, vu, vu, vu, vu, vu]) rfl ?_
 refine aN X110 hx hby d20_16 rfl rfl ?_
 obtain ⟨v111, T111, L111, X111, hQ111, st111⟩ := cP X110 hx hZ hown (tw147 hw) (tw148 hw) (tw150 hw) (tw149 hw) (tw102 hw) (tw151 hw) (rmg1a l Z a0 hw [] a2 vb (1 : Int32) T105.heap n0 (lq (lq Z0 E101.1) K105q.1) ((E_a2.ext E101).keep K105q) ((F_a2_value.ext E101).keep K105q (ni1 ne108)) ((F_a2_intLen.ext E101).keep K105q (ni1 ne108)) ((F_a2_offset.ext E101).keep K105q (ni1 ne108)) ((A_vb.ext E101).keep K105q (ni1 ne109))) (W := 0) e110 ((E_a2.ext E101).keep K105q) (g := (mkF m 17 #[vr a1, vr a2, vr a1, vr b101, vi (Grmg2 w0 w1), vu, vu, vu, vu, vu, vu, vu, vu] [(.ref a2)])) rfl hml rfl (argsL := []) (rest := []) (lenOf pd_8 rfl) rfl rfl rfl (hb hby d20_17) rfl
 refine Done.far st111 ?_
 obtain ⟨rfl, N111q, e111⟩ := hQ111
 show Aq T111 20 #[vr a1, vr a2, vr a1, vr b101, vi (Grmg2 w0 w1), vu, vu, vu, vu, vu, vu, vu, vu] [(.int (Grmg1a (1 : Int32)))]
 rw [show (Grmg1a (1 : Int32)) = (0 : Int32) from (by decide +kernel)]
 show Aq T111 20 #[vr a1, vr a2, vr a1, vr b101, vi (Grmg2 w0 w1), vu, vu, vu, vu, vu, vu, vu, vu] [(.int 0)]
 refine sL X111 hx hby d20_20 (l' := #[vr a1, vr a2, vr a1, vr b101, vi (Grmg2 w0 w1), vi 0, vu, vu, vu, vu, vu, vu, vu]) rfl ?_
 refine iL X111 hx hby d20_22 rfl ?_
 refine iL X111 hx hby d20_24 rfl ?_
 refine cY X111 hx hby d20_26 (pc' := 34) (flt (own_g2nn (own_une hw0))).2.1 (H := ?_)
 refine iL X111 hx hby d20_34 rfl ?_
 refine sL X111 hx hby d20_36 (l' := #[vr a1, vr a2, vr a1, vr b101, vi (Grmg2 w0 w1), vi 0, vi 0, vu, vu, vu, vu, vu, vu]) rfl ?_
 refine iL X111 hx hby d20_38 rfl ?_
 refine iY X111 hx hby d20_40 (pc' := 55) ((if0 _ _).trans (teq (by decide)).1) (H := ?_)
 refine iL X111 hx hby d20_55 rfl ?_
 refine iL X111 hx hby d20_57 rfl ?_
 by_cases c1 : (0 : Int32) = (Grmg2 w0 w1)
 ·refine cF X111 hx hby d20_59 (teq c1).2 ?_
  refine iC X111 hx hby d20_62 (z := 1) rfl ?_
  refine gO X111 hx hby d20_63 (pc' := 67) (H := ?_)
  refine sL X111 hx hby d20_67 (l' := #[vr a1, vr a2, vr a1, vr b101, vi (Grmg2 w0 w1), vi 0, vi 0, vi 1, vu, vu, vu, vu, vu]) rfl ?_
  refine iL X111 hx hby d20_69 rfl ?_
  refine iF X111 hx hby d20_71 ((if0 _ _).trans (feq (by decide)).1) ?_
  refine aN X111 hx hby d20_74 rfl rfl ?_
  refine gO X111 hx hby d20_75 (pc' := 79) (H := ?_)
  refine aS X111 hx hby d20_79 rfl (l' := #[vr a1, vr a2, vr a1, vr b101, vi (Grmg2 w0 w1), vi 0, vi 0, vi 1, vr a2, vu, vu, vu, vu]) rfl ?_
  refine iL X111 hx hby d20_81 rfl ?_
  refine iF X111 hx hby d20_83 ((if0 _ _).trans (feq (by decide)).1) ?_
  refine iC X111 hx hby d20_86 (z := (-1)) rfl ?_
  refine gO X111 hx hby d20_87 (pc' := 91) (H := ?_)
  refine sL X111 hx hby d20_91 (l' := #[vr a1, vr a2, vr a1, vr b101, vi (Grmg2 w0 w1), vi 0, vi 0, vi 1, vr a2, vi (-1 : Int32), vu, vu, vu]) rfl ?_
  refine aL X111 hx hby d20_93 rfl rfl ?_
  obtain ⟨v112, T112, L112, X112, hQ112, st112⟩ := cP X111 hx hZ hown (tw147 hw) (tw148 hw) (tw150 hw) (tw149 hw) (tw102 hw) (tw151 hw) (rmg1a l Z a0 hw [] a2 vb (1 : Int32) T105.heap n0 (lq (lq Z0 E101.1) K105q.1) ((E_a2.ext E101).keep K105q) ((F_a2_value.ext E101).keep K105q (ni1 ne108)) ((F_a2_intLen.ext E101).keep K105q (ni1 ne108)) ((F_a2_offset.ext E101).keep K105q (ni1 ne108)) ((A_vb.ext E101).keep K105q (ni1 ne109))) (W := 0) e111 ((E_a2.ext E101).keep K105q) (g := (mkF m 95 #[vr a1, vr a2, vr a1, vr b101, vi (Grmg2 w0 w1), vi 0, vi 0, vi 1, vr a2, vi (-1 : Int32), vu, vu, vu] [(.ref a2)])) rfl hml rfl (argsL := []) (rest := []) (lenOf pd_8 rfl) rfl rfl rfl (hb hby d20_95) rfl
  refine Done.far st112 ?_
  obtain ⟨rfl, N112q, e112⟩ := hQ112
  show Aq T112 98 #[vr a1, vr a2, vr a1, vr b101, vi (Grmg2 w0 w1), vi 0, vi 0, vi 1, vr a2, vi (-1 : Int32), vu, vu, vu] [(.int (Grmg1a (1 : Int32)))]
  refine dU X112 hx hby d20_98 rfl ?_
  refine sL X112 hx hby d20_99 (l' := #[vr a1, vr a2, vr a1, vr b101, vi (Grmg2 w0 w1), vi 0, vi 0, vi 1, vr a2, vi (-1 : Int32), vi (Grmg1a (1 : Int32)), vu, vu]) rfl ?_
  refine iF X112 hx hby d20_101 ((if0 _ _).trans (flt (own_g1nn (by decide))).1) ?_
  obtain ⟨t, ht, h5, h31, -, hle⟩ := own_lb1 (w := (1 : Int32)) (by decide)
  refine aL X112 hx hby d20_104 rfl rfl ?_
  refine iL X112 hx hby d20_106 rfl ?_
  obtain ⟨v113, T113, L113, X113, hQ113, st113⟩ := cV X112 hx hZ hown (tw157 hw) (tw158 hw) (tw160 hw) (tw159 hw) (tw102 hw) (tw161 hw) (rs11 l Z a0 hw [] a2 (Grmg1a (1 : Int32)) vb (1 : Int32) (Int32.ofNat t) t T105.heap n0 (lq (lq Z0 E101.1) K105q.1) ((E_a2.ext E101).keep K105q) ((F_a2_value.ext E101).keep K105q (ni1 ne108)) ((F_a2_intLen.ext E101).keep K105q (ni1 ne108)) ((F_a2_offset.ext E101).keep K105q (ni1 ne108)) ((A_vb.ext E101).keep K105q (ni1 ne109)) g_a2 g_vb ne_a2_vb h5 h31 rfl ht hle (own_une (by decide))) (W := 0) e112 ((E_a2.ext E101).keep K105q) (g := (mkF m 108 #[vr a1, vr a2, vr a1, vr b101, vi (Grmg2 w0 w1), vi 0, vi 0, vi 1, vr a2, vi (-1 : Int32), vi (Grmg1a (1 : Int32)), vu, vu] [(.int (Grmg1a (1 : Int32))), (.ref a2)])) rfl hml rfl (argsL := [(.int (Grmg1a (1 : Int32)))]) (rest := []) (lenOf pd_5 rfl) rfl rfl rfl (hb hby d20_108) rfl
  refine Done.far st113 ?_
  obtain ⟨A0_113, rfl, N113q, K113q, y113_0, y113_1, y113_2, y113_3, y113_4, hy113_5, hy113_6⟩ := hQ113
  have N113 := Fr.app (Fr.app (Fr.app (Fr.app (Fr.app N0 N105q) N110q) N111q) N112q) N113q
  have f114 := ((F_a1_value.ext E101).keep K105q (ni1 ne106)).keep K113q (ni2 ne_a1_a2 ne_a1_vb)
  have f115 := ((F_a1_intLen.ext E101).keep K105q (ni1 ne106)).keep K113q (ni2 ne_a1_a2 ne_a1_vb)
  have f116 := ((F_a1_offset.ext E101).keep K105q (ni1 ne106)).keep K113q (ni2 ne_a1_a2 ne_a1_vb)
  have f117 := ((A_va.ext E101).keep K105q (ni1 ne107)).keep K113q (ni2 ne_va_a2 ne_va_vb)
  have ne118 := nz (E_a2.ext E101).lt z105_6
  have ne119 := nz (A_vb.ext E101).lt z105_6
  show Aq T113 111 #[vr a1, vr a2, vr a1, vr b101, vi (Grmg2 w0 w1), vi 0, vi 0, vi 1, vr a2, vi (-1 : Int32), vi (Grmg1a (1 : Int32)), vu, vu] []
  obtain rfl : A0_113 = (1 : Int32) := hy113_6 rfl
  show Aq T113 111 #[vr a1, vr a2, vr a1, vr b101, vi (Grmg2 w0 w1), vi 0, vi 0, vi 1, vr a2, vi (-1 : Int32), vi (Grmg1a (1 : Int32)), vu, vu] []
  refine iL X113 hx hby d20_111 rfl ?_
  refine iY X113 hx hby d20_113 (pc' := 122) ((if0 _ _).trans (flt (by decide)).2.2.2) (H := ?_)
  refine aL X113 hx hby d20_122 rfl rfl ?_
  refine aT X113 hx hby d20_124 rfl (l' := #[vr a1, vr a2, vr a1, vr b101, vi (Grmg2 w0 w1), vi 0, vi 0, vi 1, vr a2, vi (-1 : Int32), vi (Grmg1a (1 : Int32)), vu, vu]) rfl ?_
  refine aN X113 hx hby d20_125 rfl rfl ?_
  obtain ⟨T120, X120, e120, st120⟩ := gF X113 hx hZ hown (tw112 hw) rfl f115 (g := (mkF m 126 #[vr a1, vr a2, vr a1, vr b101, vi (Grmg2 w0 w1), vi 0, vi 0, vi 1, vr a2, vi (-1 : Int32), vi (Grmg1a (1 : Int32)), vu, vu] [(.ref a1)])) rfl rfl (hb hby d20_126)
  refine dS st120 ?_
  show Aq T120 129 #[vr a1, vr a2, vr a1, vr b101, vi (Grmg2 w0 w1), vi 0, vi 0, vi 1, vr a2, vi (-1 : Int32), vi (Grmg1a (1 : Int32)), vu, vu] [(.int 2)]
  refine iC X120 hx hby d20_129 (z := 2) rfl ?_
  refine cY X120 hx hby d20_130 (pc' := 203) (flt (by decide)).2.1 (H := ?_)
  have ne121 := nz (E_a1.ext E101).lt z105_6
  have ne122 := nz (A_va.ext E101).lt z105_6
  have ne123 := nz A101.lt z105_6
  exact lp203 a1 va a2 vb b101 bv_105 (Grmg2 w0 w1) (0 : Int32) (1 : Int32) hx hZ hw hby hml hown hlk hret hnm g_a1 g_va g_a2 g_vb (lb Z0 gq101) (lq (lq Z0 E101.1) z105_6) sz_b101 sz_bv_105 ne_a1_va ne_a1_a2 ne_a1_vb ne106 ne121 ne_va_a2 ne_va_vb ne107 ne122 ne_a2_vb ne108 ne118 ne109 ne119 ne123 (MM w0 w1 + 1)  T120 _ T113.heap w0 w1 a2 (-1 : Int32) (Grmg1a (1 : Int32)) X120 N113 (lq (lq (lq Z0 E101.1) K105q.1) K113q.1) e120 (Kk105.trans K113q (allS (Or.inl me2) (allS (Or.inl me3) all0))) (((E_a1.ext E101).keep K105q).keep K113q) f114 f115 f116 f117 y113_0 y113_1 y113_2 y113_3 y113_4 (y105_0.keep K113q) (y105_1.keep K113q (ni2 ne108.symm ne109.symm)) (y105_2.keep K113q (ni2 ne108.symm ne109.symm)) (y105_3.keep K113q (ni2 ne108.symm ne109.symm)) (y105_4.keep K113q (ni2 ne118.symm ne119.symm)) (y105_5.keep K113q) (Nat.lt_succ_self _) hw0 (own_g2odd (own_une hw0) c1)
 ·refine cY X111 hx hby d20_59 (pc' := 66) (feq c1).2 (H := ?_)
  refine iC X111 hx hby d20_66 (z := 0) rfl ?_
  refine sL X111 hx hby d20_67 (l' := #[vr a1, vr a2, vr a1, vr b101, vi (Grmg2 w0 w1), vi 0, vi 0, vi 0, vu, vu, vu, vu, vu]) rfl ?_
  refine iL X111 hx hby d20_69 rfl ?_
  refine iY X111 hx hby d20_71 (pc' := 78) ((if0 _ _).trans (teq (by decide)).1) (H := ?_)
  refine aN X111 hx hby d20_78 rfl rfl ?_
  refine aS X111 hx hby d20_79 rfl (l' := #[vr a1, vr a2, vr a1, vr b101, vi (Grmg2 w0 w1), vi 0, vi 0, vi 0, vr a1, vu, vu, vu, vu]) rfl ?_
  refine iL X111 hx hby d20_81 rfl ?_
  refine iY X111 hx hby d20_83 (pc' := 90) ((if0 _ _).trans (teq (by decide)).1) (H := ?_)
  refine iC X111 hx hby d20_90 (z := 1) rfl ?_
  refine sL X111 hx hby d20_91 (l' := #[vr a1, vr a2, vr a1, vr b101, vi (Grmg2 w0 w1), vi 0, vi 0, vi 0, vr a1, vi 1, vu, vu, vu]) rfl ?_
  refine aL X111 hx hby d20_93 rfl rfl ?_
  obtain ⟨v124, T124, L124, X124, hQ124, st124⟩ := cP X111 hx hZ hown (tw147 hw) (tw148 hw) (tw150 hw) (tw149 hw) (tw102 hw) (tw151 hw) (rmg2 l Z a0 hw [] a1 va w0 w1 T105.heap n0 (lq (lq Z0 E101.1) K105q.1) ((E_a1.ext E101).keep K105q) ((F_a1_value.ext E101).keep K105q (ni1 ne106)) ((F_a1_intLen.ext E101).keep K105q (ni1 ne106)) ((F_a1_offset.ext E101).keep K105q (ni1 ne106)) ((A_va.ext E101).keep K105q (ni1 ne107))) (W := 0) e111 ((E_a1.ext E101).keep K105q) (g := (mkF m 95 #[vr a1, vr a2, vr a1, vr b101, vi (Grmg2 w0 w1), vi 0, vi 0, vi 0, vr a1, vi 1, vu, vu, vu] [(.ref a1)])) rfl hml rfl (argsL := []) (rest := []) (lenOf pd_8 rfl) rfl rfl rfl (hb hby d20_95) rfl
  refine Done.far st124 ?_
  obtain ⟨rfl, N124q, e124⟩ := hQ124
  show Aq T124 98 #[vr a1, vr a2, vr a1, vr b101, vi (Grmg2 w0 w1), vi 0, vi 0, vi 0, vr a1, vi 1, vu, vu, vu] [(.int (Grmg2 w0 w1))]
  refine dU X124 hx hby d20_98 rfl ?_
  refine sL X124 hx hby d20_99 (l' := #[vr a1, vr a2, vr a1, vr b101, vi (Grmg2 w0 w1), vi 0, vi 0, vi 0, vr a1, vi 1, vi (Grmg2 w0 w1), vu, vu]) rfl ?_
  refine iF X124 hx hby d20_101 ((if0 _ _).trans (flt (own_g2nn (own_une hw0))).1) ?_
  by_cases c2 : w1 = (0 : Int32)
  ·obtain ⟨t, ht, h5, h31, -, hle⟩ := own_lb2b c2 (own_une hw0)
   refine aL X124 hx hby d20_104 rfl rfl ?_
   refine iL X124 hx hby d20_106 rfl ?_
   obtain ⟨v125, T125, L125, X125, hQ125, st125⟩ := cV X124 hx hZ hown (tw157 hw) (tw158 hw) (tw160 hw) (tw159 hw) (tw102 hw) (tw161 hw) (rs22b l Z a0 hw [] a1 (Grmg2 w0 w1) va w0 w1 (Int32.ofNat t) t T105.heap n0 (lq (lq Z0 E101.1) K105q.1) ((E_a1.ext E101).keep K105q) ((F_a1_value.ext E101).keep K105q (ni1 ne106)) ((F_a1_intLen.ext E101).keep K105q (ni1 ne106)) ((F_a1_offset.ext E101).keep K105q (ni1 ne106)) ((A_va.ext E101).keep K105q (ni1 ne107)) g_a1 g_va ne_a1_va h5 h31 rfl ht hle (own_une hw0)) (W := 0) e124 ((E_a1.ext E101).keep K105q) (g := (mkF m 108 #[vr a1, vr a2, vr a1, vr b101, vi (Grmg2 w0 w1), vi 0, vi 0, vi 0, vr a1, vi 1, vi (Grmg2 w0 w1), vu, vu] [(.int (Grmg2 w0 w1)), (.ref a1)])) rfl hml rfl (argsL := [(.int (Grmg2 w0 w1))]) (rest := []) (lenOf pd_5 rfl) rfl rfl rfl (hb hby d20_108) rfl
   refine Done.far st125 ?_
   obtain ⟨A0_125, rfl, N125q, K125q, y125_0, y125_1, y125_2, y125_3, y125_4, hy125_5⟩ := hQ125
   have N125 := Fr.app (Fr.app (Fr.app (Fr.app (Fr.app N0 N105q) N110q) N111q) N124q) N125q
   have f126 := ((F_a2_value.ext E101).keep K105q (ni1 ne108)).keep K125q (ni2 ne_a1_a2.symm ne_va_a2.symm)
   have f127 := ((F_a2_intLen.ext E101).keep K105q (ni1 ne108)).keep K125q (ni2 ne_a1_a2.symm ne_va_a2.symm)
   have f128 := ((F_a2_offset.ext E101).keep K105q (ni1 ne108)).keep K125q (ni2 ne_a1_a2.symm ne_va_a2.symm)
   have f129 := ((A_vb.ext E101).keep K105q (ni1 ne109)).keep K125q (ni2 ne_a1_vb.symm ne_va_vb.symm)
   have ne130 := nz (E_a1.ext E101).lt z105_6
   have ne131 := nz (A_va.ext E101).lt z105_6
   show Aq T125 111 #[vr a1, vr a2, vr a1, vr b101, vi (Grmg2 w0 w1), vi 0, vi 0, vi 0, vr a1, vi 1, vi (Grmg2 w0 w1), vu, vu] []
   refine iL X125 hx hby d20_111 rfl ?_
   refine iF X125 hx hby d20_113 ((if0 _ _).trans (tlt (by decide)).2.2.2) ?_
   refine aL X125 hx hby d20_116 rfl rfl ?_
   refine aT X125 hx hby d20_118 rfl (l' := #[vr a1, vr a2, vr a1, vr b101, vi (Grmg2 w0 w1), vi 0, vi 0, vi 0, vr a1, vi 1, vi (Grmg2 w0 w1), vu, vu]) rfl ?_
   refine gO X125 hx hby d20_119 (pc' := 125) (H := ?_)
   refine aN X125 hx hby d20_125 rfl rfl ?_
   obtain ⟨T132, X132, e132, st132⟩ := gF X125 hx hZ hown (tw112 hw) rfl y125_2 (g := (mkF m 126 #[vr a1, vr a2, vr a1, vr b101, vi (Grmg2 w0 w1), vi 0, vi 0, vi 0, vr a1, vi 1, vi (Grmg2 w0 w1), vu, vu] [(.ref a1)])) rfl rfl (hb hby d20_126)
   refine dS st132 ?_
   show Aq T132 129 #[vr a1, vr a2, vr a1, vr b101, vi (Grmg2 w0 w1), vi 0, vi 0, vi 0, vr a1, vi 1, vi (Grmg2 w0 w1), vu, vu] [(.int 1)]
   refine iC X132 hx hby d20_129 (z := 2) rfl ?_
   refine cF X132 hx hby d20_130 (tlt (by decide)).2.1 ?_
   refine aN X132 hx hby d20_133 rfl rfl ?_
   obtain ⟨T133, X133, e133, st133⟩ := gF X132 hx hZ hown (tw112 hw) e132 f127 (g := (mkF m 134 #[vr a1, vr a2, vr a1, vr b101, vi (Grmg2 w0 w1), vi 0, vi 0, vi 0, vr a1, vi 1, vi (Grmg2 w0 w1), vu, vu] [(.ref a2)])) rfl rfl (hb hby d20_134)
   refine dS st133 ?_
   show Aq T133 137 #[vr a1, vr a2, vr a1, vr b101, vi (Grmg2 w0 w1), vi 0, vi 0, vi 0, vr a1, vi 1, vi (Grmg2 w0 w1), vu, vu] [(.int 1)]
   refine iC X133 hx hby d20_137 (z := 2) rfl ?_
   refine cF X133 hx hby d20_138 (tlt (by decide)).2.1 ?_
   have ne134 := nz (E_a2.ext E101).lt z105_6
   have ne135 := nz (A_vb.ext E101).lt z105_6
   have ne136 := nz A101.lt z105_6
   exact blk141 a1 va a2 vb b101 bv_105 (Grmg2 w0 w1) (0 : Int32) (0 : Int32) (1 : Int32) (Grmg2 w0 w1) A0_125 a1 [(.int w1)] X133 hx hZ hw hby hml hown hlk hret hnm N125 (lq (lq (lq Z0 E101.1) K105q.1) K125q.1) e133 (Kk105.trans K125q (allS (Or.inl me0) (allS (Or.inl me1) all0))) y125_1 y125_3 y125_4 f126 f128 f129 (y105_0.keep K125q) (y105_1.keep K125q (ni2 ne106.symm ne107.symm)) (y105_2.keep K125q (ni2 ne106.symm ne107.symm)) (y105_3.keep K125q (ni2 ne106.symm ne107.symm)) (y105_4.keep K125q (ni2 ne130.symm ne131.symm)) (y105_5.keep K125q) (lb Z0 gq101) (lq (lq Z0 E101.1) z105_6) sz_b101 sz_bv_105 ne106.symm ne107.symm ne108.symm ne109.symm ne130.symm ne131.symm ne134.symm ne135.symm ne136 hy125_5
  ·obtain ⟨t, ht, h5, h31, -, hod⟩ := own_lb2a (x := w0) c2
   refine aL X124 hx hby d20_104 rfl rfl ?_
   refine iL X124 hx hby d20_106 rfl ?_
   obtain ⟨v137, T137, L137, X137, hQ137, st137⟩ := cV X124 hx hZ hown (tw157 hw) (tw158 hw) (tw160 hw) (tw159 hw) (tw102 hw) (tw161 hw) (rs22a l Z a0 hw [] a1 (Grmg2 w0 w1) va w0 w1 (Int32.ofNat t) t T105.heap n0 (lq (lq Z0 E101.1) K105q.1) ((E_a1.ext E101).keep K105q) ((F_a1_value.ext E101).keep K105q (ni1 ne106)) ((F_a1_intLen.ext E101).keep K105q (ni1 ne106)) ((F_a1_offset.ext E101).keep K105q (ni1 ne106)) ((A_va.ext E101).keep K105q (ni1 ne107)) g_a1 g_va ne_a1_va h5 h31 rfl ht hod (own_une hw0)) (W := 0) e124 ((E_a1.ext E101).keep K105q) (g := (mkF m 108 #[vr a1, vr a2, vr a1, vr b101, vi (Grmg2 w0 w1), vi 0, vi 0, vi 0, vr a1, vi 1, vi (Grmg2 w0 w1), vu, vu] [(.int (Grmg2 w0 w1)), (.ref a1)])) rfl hml rfl (argsL := [(.int (Grmg2 w0 w1))]) (rest := []) (lenOf pd_5 rfl) rfl rfl rfl (hb hby d20_108) rfl
   refine Done.far st137 ?_
   obtain ⟨A0_137, B0_137, rfl, N137q, K137q, y137_0, y137_1, y137_2, y137_3, hy137_4⟩ := hQ137
   have N137 := Fr.app (Fr.app (Fr.app (Fr.app (Fr.app N0 N105q) N110q) N111q) N124q) N137q
   have f138 := ((F_a2_value.ext E101).keep K105q (ni1 ne108)).keep K137q (ni2 ne_a1_a2.symm ne_va_a2.symm)
   have f139 := ((F_a2_intLen.ext E101).keep K105q (ni1 ne108)).keep K137q (ni2 ne_a1_a2.symm ne_va_a2.symm)
   have f140 := ((F_a2_offset.ext E101).keep K105q (ni1 ne108)).keep K137q (ni2 ne_a1_a2.symm ne_va_a2.symm)
   have f141 := ((A_vb.ext E101).keep K105q (ni1 ne109)).keep K137q (ni2 ne_a1_vb.symm ne_va_vb.symm)
   have ne142 := nz (E_a1.ext E101).lt z105_6
   have ne143 := nz (A_va.ext E101).lt z105_6
   show Aq T137 111 #[vr a1, vr a2, vr a1, vr b101, vi (Grmg2 w0 w1), vi 0, vi 0, vi 0, vr a1, vi 1, vi (Grmg2 w0 w1), vu, vu] []
   obtain ⟨f144, f144A, f144B, f144M⟩ | ⟨f144, f144A⟩ := hy137_4
   ·show Aq T137 111 #[vr a1, vr a2, vr a1, vr b101, vi (Grmg2 w0 w1), vi 0, vi 0, vi 0, vr a1, vi 1, vi (Grmg2 w0 w1), vu, vu] []
    refine iL X137 hx hby d20_111 rfl ?_
    refine iF X137 hx hby d20_113 ((if0 _ _).trans (tlt (by decide)).2.2.2) ?_
    refine aL X137 hx hby d20_116 rfl rfl ?_
    refine aT X137 hx hby d20_118 rfl (l' := #[vr a1, vr a2, vr a1, vr b101, vi (Grmg2 w0 w1), vi 0, vi 0, vi 0, vr a1, vi 1, vi (Grmg2 w0 w1), vu, vu]) rfl ?_
    refine gO X137 hx hby d20_119 (pc' := 125) (H := ?_)
    refine aN X137 hx hby d20_125 rfl rfl ?_
    obtain ⟨T145, X145, e145, st145⟩ := gF X137 hx hZ hown (tw112 hw) rfl f144 (g := (mkF m 126 #[vr a1, vr a2, vr a1, vr b101, vi (Grmg2 w0 w1), vi 0, vi 0, vi 0, vr a1, vi 1, vi (Grmg2 w0 w1), vu, vu] [(.ref a1)])) rfl rfl (hb hby d20_126)
    refine dS st145 ?_
    show Aq T145 129 #[vr a1, vr a2, vr a1, vr b101, vi (Grmg2 w0 w1), vi 0, vi 0, vi 0, vr a1, vi 1, vi (Grmg2 w0 w1), vu, vu] [(.int 2)]
    refine iC X145 hx hby d20_129 (z := 2) rfl ?_
    refine cY X145 hx hby d20_130 (pc' := 203) (flt (by decide)).2.1 (H := ?_)
    have ne146 := nz (E_a2.ext E101).lt z105_6
    have ne147 := nz (A_vb.ext E101).lt z105_6
    have ne148 := nz A101.lt z105_6
    exact lp203 a1 va a2 vb b101 bv_105 (Grmg2 w0 w1) (0 : Int32) (0 : Int32) hx hZ hw hby hml hown hlk hret hnm g_a1 g_va g_a2 g_vb (lb Z0 gq101) (lq (lq Z0 E101.1) z105_6) sz_b101 sz_bv_105 ne_a1_va ne_a1_a2 ne_a1_vb ne106 ne142 ne_va_a2 ne_va_vb ne107 ne143 ne_a2_vb ne108 ne146 ne109 ne147 ne148 (MM A0_137 B0_137 + 1)  T145 _ T137.heap A0_137 B0_137 a1 (1 : Int32) (Grmg2 w0 w1) X145 N137 (lq (lq (lq Z0 E101.1) K105q.1) K137q.1) e145 (Kk105.trans K137q (allS (Or.inl me0) (allS (Or.inl me1) all0))) y137_0 y137_1 f144 y137_2 y137_3 (((E_a2.ext E101).keep K105q).keep K137q) f138 f139 f140 f141 (y105_0.keep K137q) (y105_1.keep K137q (ni2 ne106.symm ne107.symm)) (y105_2.keep K137q (ni2 ne106.symm ne107.symm)) (y105_3.keep K137q (ni2 ne106.symm ne107.symm)) (y105_4.keep K137q (ni2 ne142.symm ne143.symm)) (y105_5.keep K137q) (Nat.lt_succ_self _) f144A f144B
   ·show Aq T137 111 #[vr a1, vr a2, vr a1, vr b101, vi (Grmg2 w0 w1), vi 0, vi 0, vi 0, vr a1, vi 1, vi (Grmg2 w0 w1), vu, vu] []
    refine iL X137 hx hby d20_111 rfl ?_
    refine iF X137 hx hby d20_113 ((if0 _ _).trans (tlt (by decide)).2.2.2) ?_
    refine aL X137 hx hby d20_116 rfl rfl ?_
    refine aT X137 hx hby d20_118 rfl (l' := #[vr a1, vr a2, vr a1, vr b101, vi (Grmg2 w0 w1), vi 0, vi 0, vi 0, vr a1, vi 1, vi (Grmg2 w0 w1), vu, vu]) rfl ?_
    refine gO X137 hx hby d20_119 (pc' := 125) (H := ?_)
    refine aN X137 hx hby d20_125 rfl rfl ?_
    obtain ⟨T149, X149, e149, st149⟩ := gF X137 hx hZ hown (tw112 hw) rfl f144 (g := (mkF m 126 #[vr a1, vr a2, vr a1, vr b101, vi (Grmg2 w0 w1), vi 0, vi 0, vi 0, vr a1, vi 1, vi (Grmg2 w0 w1), vu, vu] [(.ref a1)])) rfl rfl (hb hby d20_126)
    refine dS st149 ?_
    show Aq T149 129 #[vr a1, vr a2, vr a1, vr b101, vi (Grmg2 w0 w1), vi 0, vi 0, vi 0, vr a1, vi 1, vi (Grmg2 w0 w1), vu, vu] [(.int 1)]
    refine iC X149 hx hby d20_129 (z := 2) rfl ?_
    refine cF X149 hx hby d20_130 (tlt (by decide)).2.1 ?_
    refine aN X149 hx hby d20_133 rfl rfl ?_
    obtain ⟨T150, X150, e150, st150⟩ := gF X149 hx hZ hown (tw112 hw) e149 f139 (g := (mkF m 134 #[vr a1, vr a2, vr a1, vr b101, vi (Grmg2 w0 w1), vi 0, vi 0, vi 0, vr a1, vi 1, vi (Grmg2 w0 w1), vu, vu] [(.ref a2)])) rfl rfl (hb hby d20_134)
    refine dS st150 ?_
    show Aq T150 137 #[vr a1, vr a2, vr a1, vr b101, vi (Grmg2 w0 w1), vi 0, vi 0, vi 0, vr a1, vi 1, vi (Grmg2 w0 w1), vu, vu] [(.int 1)]
    refine iC X150 hx hby d20_137 (z := 2) rfl ?_
    refine cF X150 hx hby d20_138 (tlt (by decide)).2.1 ?_
    have ne151 := nz (E_a2.ext E101).lt z105_6
    have ne152 := nz (A_vb.ext E101).lt z105_6
    have ne153 := nz A101.lt z105_6
    exact blk141 a1 va a2 vb b101 bv_105 (Grmg2 w0 w1) (0 : Int32) (0 : Int32) (1 : Int32) (Grmg2 w0 w1) A0_137 a1 [(.int B0_137)] X150 hx hZ hw hby hml hown hlk hret hnm N137 (lq (lq (lq Z0 E101.1) K105q.1) K137q.1) e150 (Kk105.trans K137q (allS (Or.inl me0) (allS (Or.inl me1) all0))) y137_1 y137_2 y137_3 f138 f140 f141 (y105_0.keep K137q) (y105_1.keep K137q (ni2 ne106.symm ne107.symm)) (y105_2.keep K137q (ni2 ne106.symm ne107.symm)) (y105_3.keep K137q (ni2 ne106.symm ne107.symm)) (y105_4.keep K137q (ni2 ne142.symm ne143.symm)) (y105_5.keep K137q) (lb Z0 gq101) (lq (lq Z0 E101.1) z105_6) sz_b101 sz_bv_105 ne106.symm ne107.symm ne108.symm ne109.symm ne142.symm ne143.symm ne151.symm ne152.symm ne153 f144A
def Sh (sg : Int32) (ml : List Int32) : Prop := (sg = (0 : Int32) ∧ ml = []) ∨ (¬ sg = (0 : Int32) ∧ ∃ x : Int32, ¬ x = (0 : Int32) ∧ ml = [x]) ∨ (¬ sg = (0 : Int32) ∧ ∃ x y : Int32, ¬ x = (0 : Int32) ∧ ml = [x, y])
theorem d17_0 : dq cd22 0 (.aload_n 0) 1 := by decide +kernel
theorem d17_1 : dq cd22 1 (.astore_n 2) 1 := by decide +kernel
theorem d17_2 : dq cd22 2 (.new 12) 3 := by decide +kernel
theorem d17_5 : dq cd22 5 .dup 1 := by decide +kernel
theorem d17_6 : dq cd22 6 (.invokespecial 177) 3 := by decide +kernel
theorem d17_9 : dq cd22 9 (.astore_n 3) 1 := by decide +kernel
theorem d17_10 : dq cd22 10 (.aload_n 1) 1 := by decide +kernel
theorem d17_11 : dq cd22 11 (.getfield 21) 3 := by decide +kernel
theorem d17_14 : dq cd22 14 (.ifCond .eq 41) 3 := by decide +kernel
theorem d17_17 : dq cd22 17 (.aload_n 2) 1 := by decide +kernel
theorem d17_18 : dq cd22 18 (.getfield 21) 3 := by decide +kernel
theorem d17_21 : dq cd22 21 (.aload_n 1) 1 := by decide +kernel
theorem d17_22 : dq cd22 22 (.getfield 21) 3 := by decide +kernel
theorem d17_25 : dq cd22 25 .isub 1 := by decide +kernel
theorem d17_26 : dq cd22 26 (.invokestatic 329) 3 := by decide +kernel
theorem d17_29 : dq cd22 29 (.iconst 2) 1 := by decide +kernel
theorem d17_30 : dq cd22 30 (.if_icmp .ge 9) 3 := by decide +kernel
theorem d17_33 : dq cd22 33 (.aload_n 2) 1 := by decide +kernel
theorem d17_34 : dq cd22 34 (.aload_n 1) 1 := by decide +kernel
theorem d17_35 : dq cd22 35 (.invokevirtual 332) 3 := by decide +kernel
theorem d17_38 : dq cd22 38 .areturn 1 := by decide +kernel
theorem ef_17 (m : MethodId) (a1 : Addr) (a2 : Addr) : entryFrame m #[(.ref a1), (.ref a2)] 5 = mkF m 0 #[.val (.ref a1), .val (.ref a2), .unset, .unset, .unset] [] := by first | (simp [entryFrame, mkF, argsToLocals, Value.category]; done) | rfl
theorem hg1 (l : Launch) (Z : State) (a0 : Array Value) (hw : HH a0 Z) (ws : List Jvm.Cond) (a1 a2 va vb : Addr) (w0 : Int32) (h0 : Heap) (n0 : Nat) (Z0 : n0 ≤ h0.size) (E_a1 : Fl3 Z h0 a1) (F_a1_value : Fl0 Z h0 a1 (.ref va)) (F_a1_intLen : Fl1 Z h0 a1 (.int 1)) (F_a1_offset : Fl2 Z h0 a1 (.int 0)) (A_va : Ax Z h0 va .int [(.int w0)]) (E_a2 : Fl3 Z h0 a2) (F_a2_value : Fl0 Z h0 a2 (.ref vb)) (F_a2_intLen : Fl1 Z h0 a2 (.int 1)) (F_a2_offset : Fl2 Z h0 a2 (.int 0)) (A_vb : Ax Z h0 vb .int [(.int 1)]) (g_a1 : n0 ≤ a1) (g_va : n0 ≤ va) (g_a2 : n0 ≤ a2) (g_vb : n0 ≤ vb) (ne_a1_va : a1 ≠ va) (ne_a1_a2 : a1 ≠ a2) (ne_a1_vb : a1 ≠ vb) (ne_va_a2 : va ≠ a2) (ne_va_vb : va ≠ vb) (ne_a2_vb : a2 ≠ vb) (hw0 : ¬ w0 = (0 : Int32)) : MF l "java/math/MutableBigInteger" "hybridGCD" "(Ljava/math/MutableBigInteger;)Ljava/math/MutableBigInteger;" jdk_2101_method_72_code 5 (some (.object "java/math/MutableBigInteger")) ws ⟨4, 4, 8, 66⟩ Z h0 #[(.ref a1), (.ref a2)] (fun v h L => ∃ (r0 rv : Addr), v = some (.ref r0) ∧ Fr n0 L ∧ Keep h0 h [a1, va, a2, vb] ∧ Fl3 Z h r0 ∧ Fl0 Z h r0 (.ref rv) ∧ Fl1 Z h r0 (.int 1) ∧ Fl2 Z h r0 (.int 0) ∧ Ax Z h rv .int [(.int 1)] ∧ Fl4 Z h rv ∧ h0.size ≤ r0 ∧ h0.size ≤ rv ∧ r0 ≠ rv) := by
 refine own_body (n0 := n0) (plainFor_of_name pn_27) (fun m => ef_17 m a1 a2) ?_
 intro p e s m below meth c s₁ hZ hx hby hml hown hlk hret hnm X0 e0 N0
 show Aq s₁ 0 #[vr a1, vr a2, vu, vu, vu] []
 refine aN X0 hx hby d17_0 rfl rfl ?_
 refine aT X0 hx hby d17_1 rfl (l' := #[vr a1, vr a2, vr a1, vu, vu]) rfl ?_
 obtain ⟨T101, h101, X101, e101, E101, A101, D101, -, st101⟩ := newO X0 hx hZ hown (tw134 hw) (tw101 hw) (tw102 hw) e0 (g := (mkF m 2 #[vr a1, vr a2, vr a1, vu, vu] [])) rfl (hb hby d17_2) (by decide) (by decide)
 obtain ⟨b101, gq101⟩ : ∃ z, z = h0.size := ⟨_, rfl⟩
 rw [← gq101] at A101 D101 st101
 have sz_b101 := lb (kr h0 [a1, va, a2, vb]).1 gq101
 have f102 : Fl2 Z h101 b101 (.int 0) := D101 (Or.inl (tw109 hw)) (ty := .int) (by decide)
 have f103 : Fl1 Z h101 b101 (.int 0) := D101 (Or.inl (tw113 hw)) (ty := .int) (by decide)
 have f104 : Fl0 Z h101 b101 .null := D101 (Or.inl (tw128 hw)) (ty := (.array .int)) (by decide)
 refine dS st101 ?_
 show Aq T101 5 #[vr a1, vr a2, vr a1, vu, vu] [(.ref b101)]
 refine dU X101 hx hby d17_5 rfl ?_
 obtain ⟨v105, T105, L105, X105, hQ105, st105⟩ := cI X101 hx hZ hown (tw135 hw) (tw136 hw) (tw102 hw) (tw137 hw) (mi0 l Z a0 hw [] b101  h101 n0 (lq Z0 E101.1) A101 f104 f103 f102 (lb Z0 gq101)) (W := 1) e101 (g := (mkF m 6 #[vr a1, vr a2, vr a1, vu, vu] [(.ref b101), (.ref b101)])) rfl hml rfl (argsL := []) (rest := [(.ref b101)]) (lenOf pd_2 rfl) rfl rfl rfl (hb hby d17_6) rfl
 refine Done.far st105 ?_
 obtain ⟨bv_105, rfl, N105q, K105q, y105_0, y105_1, y105_2, y105_3, y105_4, y105_5, z105_6⟩ := hQ105
 have sz_bv_105 := lq ((kr h0 [a1, va, a2, vb]).ext E101).1 z105_6
 have ne106 := nl E_a1.lt gq101
 have ne107 := nl A_va.lt gq101
 have ne108 := nl E_a2.lt gq101
 have ne109 := nl A_vb.lt gq101
 have Kk105 := ((kr h0 [a1, va, a2, vb]).ext E101).trans K105q (allS (Or.inr sz_b101) all0)
 show Aq T105 9 #[vr a1, vr a2, vr a1, vu, vu] [(.ref b101)]
 refine aT X105 hx hby d17_9 rfl (l' := #[vr a1, vr a2, vr a1, vr b101, vu]) rfl ?_
 refine aN X105 hx hby d17_10 rfl rfl ?_
 obtain ⟨T110, X110, e110, st110⟩ := gF X105 hx hZ hown (tw112 hw) rfl ((F_a2_intLen.ext E101).keep K105q (ni1 ne108)) (g := (mkF m 11 #[vr a1, vr a2, vr a1, vr b101, vu] [(.ref a2)])) rfl rfl (hb hby d17_11)
 refine dS st110 ?_
 show Aq T110 14 #[vr a1, vr a2, vr a1, vr b101, vu] [(.int 1)]
 refine iF X110 hx hby d17_14 ((if0 _ _).trans (feq (by decide)).1) ?_
 refine aN X110 hx hby d17_17 rfl rfl ?_
 obtain ⟨T111, X111, e111, st111⟩ := gF X110 hx hZ hown (tw112 hw) e110 ((F_a1_intLen.ext E101).keep K105q (ni1 ne106)) (g := (mkF m 18 #[vr a1, vr a2, vr a1, vr b101, vu] [(.ref a1)])) rfl rfl (hb hby d17_18)
 refine dS st111 ?_
 show Aq T111 21 #[vr a1, vr a2, vr a1, vr b101, vu] [(.int 1)]
 refine aN X111 hx hby d17_21 rfl rfl ?_
 obtain ⟨T112, X112, e112, st112⟩ := gF X111 hx hZ hown (tw112 hw) e111 ((F_a2_intLen.ext E101).keep K105q (ni1 ne108)) (g := (mkF m 22 #[vr a1, vr a2, vr a1, vr b101, vu] [(.ref a2), (.int 1)])) rfl rfl (hb hby d17_22)
 refine dS st112 ?_
 show Aq T112 25 #[vr a1, vr a2, vr a1, vr b101, vu] [(.int 1), (.int 1)]
 refine iS X112 hx hby d17_25 ?_
 rw [show ((1 : Int32) - (1 : Int32)) = (0 : Int32) from by decide]
 obtain ⟨v113, T113, L113, X113, hQ113, st113⟩ := cS X112 hx hZ hown (tw138 hw) (tw139 hw) (tw140 hw) (tw141 hw) (rm19 l Z a0 hw [] (0 : Int32) T105.heap n0 (lq (lq Z0 E101.1) K105q.1) ) (W := 0) e112 (g := (mkF m 26 #[vr a1, vr a2, vr a1, vr b101, vu] [(.int 0)])) rfl hml rfl (argsL := [(.int 0)]) (rest := []) (lenOf pd_0 rfl) rfl rfl rfl (hb hby d17_26) rfl
 refine dS st113 ?_
 obtain ⟨rfl, N113q, e113⟩ := hQ113
 have N113 := Fr.app (Fr.app N0 N105q) N113q
 show Aq T113 29 #[vr a1, vr a2, vr a1, vr b101, vu] [(.int (F19 (0 : Int32)))]
 rw [show (F19 (0 : Int32)) = (0 : Int32) from (by decide)]
 show Aq T113 29 #[vr a1, vr a2, vr a1, vr b101, vu] [(.int 0)]
 refine iC X113 hx hby d17_29 (z := 2) rfl ?_
 refine cF X113 hx hby d17_30 (tlt (by decide)).2.1 ?_
 refine aN X113 hx hby d17_33 rfl rfl ?_
 refine aN X113 hx hby d17_34 rfl rfl ?_
 obtain ⟨v114, T114, L114, X114, hQ114, st114⟩ := cP X113 hx hZ hown (tw142 hw) (tw143 hw) (tw145 hw) (tw144 hw) (tw102 hw) (tw146 hw) (bg1 l Z a0 hw [] a1 a2 va vb w0 T105.heap n0 (lq (lq Z0 E101.1) K105q.1) ((E_a1.ext E101).keep K105q) ((F_a1_value.ext E101).keep K105q (ni1 ne106)) ((F_a1_intLen.ext E101).keep K105q (ni1 ne106)) ((F_a1_offset.ext E101).keep K105q (ni1 ne106)) ((A_va.ext E101).keep K105q (ni1 ne107)) ((E_a2.ext E101).keep K105q) ((F_a2_value.ext E101).keep K105q (ni1 ne108)) ((F_a2_intLen.ext E101).keep K105q (ni1 ne108)) ((F_a2_offset.ext E101).keep K105q (ni1 ne108)) ((A_vb.ext E101).keep K105q (ni1 ne109)) g_a1 g_va g_a2 g_vb ne_a1_va ne_a1_a2 ne_a1_vb ne_va_a2 ne_va_vb ne_a2_vb hw0) (W := 0) e113 ((E_a1.ext E101).keep K105q) (g := (mkF m 35 #[vr a1, vr a2, vr a1, vr b101, vu] [(.ref a2), (.ref a1)])) rfl hml rfl (argsL := [(.ref a2)]) (rest := []) (lenOf pd_9 rfl) rfl rfl rfl (hb hby d17_35) rfl
 refine Done.far st114 ?_
 obtain ⟨r0_114, rv_114, rfl, N114q, K114q, y114_0, y114_1, y114_2, y114_3, y114_4, y114_5, z114_6, z114_7, ne114_8⟩ := hQ114
 have sz_r0_114 := lq Kk105.1 z114_6
 have sz_rv_114 := lq Kk105.1 z114_7
 have ne115 := nz (E_a1.ext E101).lt z105_6
 have ne116 := nz (A_va.ext E101).lt z105_6
 have ne117 := nz (E_a2.ext E101).lt z105_6
 have ne118 := nz (A_vb.ext E101).lt z105_6
 have Kk114 := Kk105.trans K114q (allS (Or.inl me0) (allS (Or.inl me1) (allS (Or.inl me2) (allS (Or.inl me3) all0))))
 show Aq T114 38 #[vr a1, vr a2, vr a1, vr b101, vu] [(.ref r0_114)]
 exact Done.ref X114 hx hlk hret rfl rfl rfl (hb hby d17_38) (by decide) (by decide) ⟨r0_114, rv_114, rfl, (Fr.app N113 N114q), ⟨Kk114, y114_0, y114_1, y114_2, y114_3, y114_4, y114_5, sz_r0_114, sz_rv_114, ne114_8⟩⟩
theorem hg2 (l : Launch) (Z : State) (a0 : Array Value) (hw : HH a0 Z) (ws : List Jvm.Cond) (a1 a2 va vb : Addr) (w0 w1 : Int32) (h0 : Heap) (n0 : Nat) (Z0 : n0 ≤ h0.size) (E_a1 : Fl3 Z h0 a1) (F_a1_value : Fl0 Z h0 a1 (.ref va)) (F_a1_intLen : Fl1 Z h0 a1 (.int 2)) (F_a1_offset : Fl2 Z h0 a1 (.int 0)) (A_va : Ax Z h0 va .int [(.int w0), (.int w1)]) (E_a2 : Fl3 Z h0 a2) (F_a2_value : Fl0 Z h0 a2 (.ref vb)) (F_a2_intLen : Fl1 Z h0 a2 (.int 1)) (F_a2_offset : Fl2 Z h0 a2 (.int 0)) (A_vb : Ax Z h0 vb .int [(.int 1)]) (g_a1 : n0 ≤ a1) (g_va : n0 ≤ va) (g_a2 : n0 ≤ a2) (g_vb : n0 ≤ vb) (ne_a1_va : a1 ≠ va) (ne_a1_a2 : a1 ≠ a2) (ne_a1_vb : a1 ≠ vb) (ne_va_a2 : va ≠ a2) (ne_va_vb : va ≠ vb) (ne_a2_vb : a2 ≠ vb) (hw0 : ¬ w0 = (0 : Int32)) : MF l "java/math/MutableBigInteger" "hybridGCD" "(Ljava/math/MutableBigInteger;)Ljava/math/MutableBigInteger;" jdk_2101_method_72_code 5 (some (.object "java/math/MutableBigInteger")) ws ⟨4, 4, 8, 66⟩ Z h0 #[(.ref a1), (.ref a2)] (fun v h L => ∃ (r0 rv : Addr), v = some (.ref r0) ∧ Fr n0 L ∧ Keep h0 h [a1, va, a2, vb] ∧ Fl3 Z h r0 ∧ Fl0 Z h r0 (.ref rv) ∧ Fl1 Z h r0 (.int 1) ∧ Fl2 Z h r0 (.int 0) ∧ Ax Z h rv .int [(.int 1)] ∧ Fl4 Z h rv ∧ h0.size ≤ r0 ∧ h0.size ≤ rv ∧ r0 ≠ rv) := by
 refine own_body (n0 := n0) (plainFor_of_name pn_27) (fun m => ef_17 m a1 a2) ?_
 intro p e s m below meth c s₁ hZ hx hby hml hown hlk hret hnm X0 e0 N0
 show Aq s₁ 0 #[vr a1, vr a2, vu, vu, vu] []
 refine aN X0 hx hby d17_0 rfl rfl ?_
 refine aT X0 hx hby d17_1 rfl (l' := #[vr a1, vr a2, vr a1, vu, vu]) rfl ?_
 obtain ⟨T101, h101, X101, e101, E101, A101, D101, -, st101⟩ := newO X0 hx hZ hown (tw134 hw) (tw101 hw) (tw102 hw) e0 (g := (mkF m 2 #[vr a1, vr a2, vr a1, vu, vu] [])) rfl (hb hby d17_2) (by decide) (by decide)
 obtain ⟨b101, gq101⟩ : ∃ z, z = h0.size := ⟨_, rfl⟩
 rw [← gq101] at A101 D101 st101
 have sz_b101 := lb (kr h0 [a1, va, a2, vb]).1 gq101
 have f102 : Fl2 Z h101 b101 (.int 0) := D101 (Or.inl (tw109 hw)) (ty := .int) (by decide)
 have f103 : Fl1 Z h101 b101 (.int 0) := D101 (Or.inl (tw113 hw)) (ty := .int) (by decide)
 have f104 : Fl0 Z h101 b101 .null := D101 (Or.inl (tw128 hw)) (ty := (.array .int)) (by decide)
 refine dS st101 ?_
 show Aq T101 5 #[vr a1, vr a2, vr a1, vu, vu] [(.ref b101)]
 refine dU X101 hx hby d17_5 rfl ?_
 obtain ⟨v105, T105, L105, X105, hQ105, st105⟩ := cI X101 hx hZ hown (tw135 hw) (tw136 hw) (tw102 hw) (tw137 hw) (mi0 l Z a0 hw [] b101  h101 n0 (lq Z0 E101.1) A101 f104 f103 f102 (lb Z0 gq101)) (W := 1) e101 (g := (mkF m 6 #[vr a1, vr a2, vr a1, vu, vu] [(.ref b101), (.ref b101)])) rfl hml rfl (argsL := []) (rest := [(.ref b101)]) (lenOf pd_2 rfl) rfl rfl rfl (hb hby d17_6) rfl
 refine Done.far st105 ?_
 obtain ⟨bv_105, rfl, N105q, K105q, y105_0, y105_1, y105_2, y105_3, y105_4, y105_5, z105_6⟩ := hQ105
 have sz_bv_105 := lq ((kr h0 [a1, va, a2, vb]).ext E101).1 z105_6
 have ne106 := nl E_a1.lt gq101
 have ne107 := nl A_va.lt gq101
 have ne108 := nl E_a2.lt gq101
 have ne109 := nl A_vb.lt gq101
 have Kk105 := ((kr h0 [a1, va, a2, vb]).ext E101).trans K105q (allS (Or.inr sz_b101) all0)
 show Aq T105 9 #[vr a1, vr a2, vr a1, vu, vu] [(.ref b101)]
 refine aT X105 hx hby d17_9 rfl (l' := #[vr a1, vr a2, vr a1, vr b101, vu]) rfl ?_
 refine aN X105 hx hby d17_10 rfl rfl ?_
 obtain ⟨T110, X110, e110, st110⟩ := gF X105 hx hZ hown (tw112 hw) rfl ((F_a2_intLen.ext E101).keep K105q (ni1 ne108)) (g := (mkF m 11 #[vr a1, vr a2, vr a1, vr b101, vu] [(.ref a2)])) rfl rfl (hb hby d17_11)
 refine dS st110 ?_
 show Aq T110 14 #[vr a1, vr a2, vr a1, vr b101, vu] [(.int 1)]
 refine iF X110 hx hby d17_14 ((if0 _ _).trans (feq (by decide)).1) ?_
 refine aN X110 hx hby d17_17 rfl rfl ?_
 obtain ⟨T111, X111, e111, st111⟩ := gF X110 hx hZ hown (tw112 hw) e110 ((F_a1_intLen.ext E101).keep K105q (ni1 ne106)) (g := (mkF m 18 #[vr a1, vr a2, vr a1, vr b101, vu] [(.ref a1)])) rfl rfl (hb hby d17_18)
 refine dS st111 ?_
 show Aq T111 21 #[vr a1, vr a2, vr a1, vr b101, vu] [(.int 2)]
 refine aN X111 hx hby d17_21 rfl rfl ?_
 obtain ⟨T112, X112, e112, st112⟩ := gF X111 hx hZ hown (tw112 hw) e111 ((F_a2_intLen.ext E101).keep K105q (ni1 ne108)) (g := (mkF m 22 #[vr a1, vr a2, vr a1, vr b101, vu] [(.ref a2), (.int 2)])) rfl rfl (hb hby d17_22)
 refine dS st112 ?_
 show Aq T112 25 #[vr a1, vr a2, vr a1, vr b101, vu] [(.int 1), (.int 2)]
 refine iS X112 hx hby d17_25 ?_
 rw [show ((2 : Int32) - (1 : Int32)) = (1 : Int32) from by decide]
 obtain ⟨v113, T113, L113, X113, hQ113, st113⟩ := cS X112 hx hZ hown (tw138 hw) (tw139 hw) (tw140 hw) (tw141 hw) (rm19 l Z a0 hw [] (1 : Int32) T105.heap n0 (lq (lq Z0 E101.1) K105q.1) ) (W := 0) e112 (g := (mkF m 26 #[vr a1, vr a2, vr a1, vr b101, vu] [(.int 1)])) rfl hml rfl (argsL := [(.int 1)]) (rest := []) (lenOf pd_0 rfl) rfl rfl rfl (hb hby d17_26) rfl
 refine dS st113 ?_
 obtain ⟨rfl, N113q, e113⟩ := hQ113
 have N113 := Fr.app (Fr.app N0 N105q) N113q
 show Aq T113 29 #[vr a1, vr a2, vr a1, vr b101, vu] [(.int (F19 (1 : Int32)))]
 rw [show (F19 (1 : Int32)) = (1 : Int32) from (by decide)]
 show Aq T113 29 #[vr a1, vr a2, vr a1, vr b101, vu] [(.int 1)]
 refine iC X113 hx hby d17_29 (z := 2) rfl ?_
 refine cF X113 hx hby d17_30 (tlt (by decide)).2.1 ?_
 refine aN X113 hx hby d17_33 rfl rfl ?_
 refine aN X113 hx hby d17_34 rfl rfl ?_
 obtain ⟨v114, T114, L114, X114, hQ114, st114⟩ := cP X113 hx hZ hown (tw142 hw) (tw143 hw) (tw145 hw) (tw144 hw) (tw102 hw) (tw146 hw) (bg2 l Z a0 hw [] a1 a2 va vb w0 w1 T105.heap n0 (lq (lq Z0 E101.1) K105q.1) ((E_a1.ext E101).keep K105q) ((F_a1_value.ext E101).keep K105q (ni1 ne106)) ((F_a1_intLen.ext E101).keep K105q (ni1 ne106)) ((F_a1_offset.ext E101).keep K105q (ni1 ne106)) ((A_va.ext E101).keep K105q (ni1 ne107)) ((E_a2.ext E101).keep K105q) ((F_a2_value.ext E101).keep K105q (ni1 ne108)) ((F_a2_intLen.ext E101).keep K105q (ni1 ne108)) ((F_a2_offset.ext E101).keep K105q (ni1 ne108)) ((A_vb.ext E101).keep K105q (ni1 ne109)) g_a1 g_va g_a2 g_vb ne_a1_va ne_a1_a2 ne_a1_vb ne_va_a2 ne_va_vb ne_a2_vb hw0) (W := 0) e113 ((E_a1.ext E101).keep K105q) (g := (mkF m 35 #[vr a1, vr a2, vr a1, vr b101, vu] [(.ref a2), (.ref a1)])) rfl hml rfl (argsL := [(.ref a2)]) (rest := []) (lenOf pd_9 rfl) rfl rfl rfl (hb hby d17_35) rfl
 refine Done.far st114 ?_
 obtain ⟨r0_114, rv_114, rfl, N114q, K114q, y114_0, y114_1, y114_2, y114_3, y114_4, y114_5, z114_6, z114_7, ne114_8⟩ := hQ114
 have sz_r0_114 := lq Kk105.1 z114_6
 have sz_rv_114 := lq Kk105.1 z114_7
 have ne115 := nz (E_a1.ext E101).lt z105_6
 have ne116 := nz (A_va.ext E101).lt z105_6
 have ne117 := nz (E_a2.ext E101).lt z105_6
 have ne118 := nz (A_vb.ext E101).lt z105_6
 have Kk114 := Kk105.trans K114q (allS (Or.inl me0) (allS (Or.inl me1) (allS (Or.inl me2) (allS (Or.inl me3) all0))))
 show Aq T114 38 #[vr a1, vr a2, vr a1, vr b101, vu] [(.ref r0_114)]
 exact Done.ref X114 hx hlk hret rfl rfl rfl (hb hby d17_38) (by decide) (by decide) ⟨r0_114, rv_114, rfl, (Fr.app N113 N114q), ⟨Kk114, y114_0, y114_1, y114_2, y114_3, y114_4, y114_5, sz_r0_114, sz_rv_114, ne114_8⟩⟩
theorem d47_0 : dq cd23 0 (.aload_n 0) 1 := by decide +kernel
theorem d47_1 : dq cd23 1 (.getfield 32) 3 := by decide +kernel
theorem d47_4 : dq cd23 4 (.ifCond .lt 7) 3 := by decide +kernel
theorem d47_7 : dq cd23 7 (.aload_n 0) 1 := by decide +kernel
theorem d47_8 : dq cd23 8 (.goto 7) 3 := by decide +kernel
theorem d47_15 : dq cd23 15 .areturn 1 := by decide +kernel
theorem ef_47 (m : MethodId) (a1 : Addr) : entryFrame m #[(.ref a1)] 1 = mkF m 0 #[.val (.ref a1)] [] := by first | (simp [entryFrame, mkF, argsToLocals, Value.category]; done) | rfl
theorem babs (l : Launch) (Z : State) (a0 : Array Value) (hw : HH a0 Z) (ws : List Jvm.Cond) (a1 : Addr) (h0 : Heap) (n0 : Nat) (Z0 : n0 ≤ h0.size) (F_a1_signum : Fl6 Z h0 a1 (.int 1)) : MF l "java/math/BigInteger" "abs" "()Ljava/math/BigInteger;" jdk_2097_method_79_code 1 (some (.object "java/math/BigInteger")) ws ⟨0, 0, 0, 0⟩ Z h0 #[(.ref a1)] (fun v h L => v = some (.ref a1) ∧ Fr n0 L ∧ Keep h0 h []) := by
 refine own_body (n0 := n0) (plainFor_of_name pn_24) (fun m => ef_47 m a1) ?_
 intro p e s m below meth c s₁ hZ hx hby hml hown hlk hret hnm X0 e0 N0
 show Aq s₁ 0 #[vr a1] []
 refine aN X0 hx hby d47_0 rfl rfl ?_
 obtain ⟨T101, X101, e101, st101⟩ := gF X0 hx hZ hown (tw93 hw) e0 F_a1_signum (g := (mkF m 1 #[vr a1] [(.ref a1)])) rfl rfl (hb hby d47_1)
 refine dS st101 ?_
 show Aq T101 4 #[vr a1] [(.int 1)]
 refine iF X101 hx hby d47_4 ((if0 _ _).trans (flt (by decide)).1) ?_
 refine aN X101 hx hby d47_7 rfl rfl ?_
 refine gO X101 hx hby d47_8 (pc' := 15) (H := ?_)
 exact Done.ref X101 hx hlk hret rfl rfl rfl (hb hby d47_15) (by decide) (by decide) ⟨rfl, N0, (by rw [e101]; exact (kr h0 []))⟩
theorem d14_0 : dq cd24 0 (.aload_n 1) 1 := by decide +kernel
theorem d14_1 : dq cd24 1 (.getfield 32) 3 := by decide +kernel
theorem d14_4 : dq cd24 4 (.ifCond .ne 8) 3 := by decide +kernel
theorem d14_12 : dq cd24 12 (.aload_n 0) 1 := by decide +kernel
theorem d14_13 : dq cd24 13 (.getfield 32) 3 := by decide +kernel
theorem d14_16 : dq cd24 16 (.ifCond .ne 8) 3 := by decide +kernel
theorem d14_19 : dq cd24 19 (.aload_n 1) 1 := by decide +kernel
theorem d14_20 : dq cd24 20 (.invokevirtual 485) 3 := by decide +kernel
theorem d14_23 : dq cd24 23 .areturn 1 := by decide +kernel
theorem d14_24 : dq cd24 24 (.new 541) 3 := by decide +kernel
theorem d14_27 : dq cd24 27 .dup 1 := by decide +kernel
theorem d14_28 : dq cd24 28 (.aload_n 0) 1 := by decide +kernel
theorem d14_29 : dq cd24 29 (.invokespecial 567) 3 := by decide +kernel
theorem d14_32 : dq cd24 32 (.astore_n 2) 1 := by decide +kernel
theorem d14_33 : dq cd24 33 (.new 541) 3 := by decide +kernel
theorem d14_36 : dq cd24 36 .dup 1 := by decide +kernel
theorem d14_37 : dq cd24 37 (.aload_n 1) 1 := by decide +kernel
theorem d14_38 : dq cd24 38 (.invokespecial 567) 3 := by decide +kernel
theorem d14_41 : dq cd24 41 (.astore_n 3) 1 := by decide +kernel
theorem d14_42 : dq cd24 42 (.aload_n 2) 1 := by decide +kernel
theorem d14_43 : dq cd24 43 (.aload_n 3) 1 := by decide +kernel
theorem d14_44 : dq cd24 44 (.invokevirtual 598) 3 := by decide +kernel
theorem d14_47 : dq cd24 47 (.astore 4) 2 := by decide +kernel
theorem d14_49 : dq cd24 49 (.aload 4) 2 := by decide +kernel
theorem d14_51 : dq cd24 51 (.iconst 1) 1 := by decide +kernel
theorem d14_52 : dq cd24 52 (.invokevirtual 548) 3 := by decide +kernel
theorem d14_55 : dq cd24 55 .areturn 1 := by decide +kernel
theorem ef_14 (m : MethodId) (a1 : Addr) (a2 : Addr) : entryFrame m #[(.ref a1), (.ref a2)] 5 = mkF m 0 #[.val (.ref a1), .val (.ref a2), .unset, .unset, .unset] [] := by first | (simp [entryFrame, mkF, argsToLocals, Value.category]; done) | rfl
theorem gcdj (l : Launch) (Z : State) (a0 : Array Value) (hw : HH a0 Z) (ws : List Jvm.Cond) (a1 a2 ma mb : Addr) (sg : Int32) (ml : List Int32) (h0 : Heap) (n0 : Nat) (Z0 : n0 ≤ h0.size) (E_a1 : Fl7 Z h0 a1) (F_a1_signum : Fl6 Z h0 a1 (.int sg)) (F_a1_mag : Fl5 Z h0 a1 (.ref ma)) (E_ma : Fl4 Z h0 ma) (A_ma : Ax Z h0 ma .int (ml.map Value.int)) (E_a2 : Fl7 Z h0 a2) (F_a2_signum : Fl6 Z h0 a2 (.int 1)) (F_a2_mag : Fl5 Z h0 a2 (.ref mb)) (E_mb : Fl4 Z h0 mb) (A_mb : Ax Z h0 mb .int [(.int 1)]) (hsh : Sh sg ml) : MF l "java/math/BigInteger" "gcd" "(Ljava/math/BigInteger;)Ljava/math/BigInteger;" jdk_2097_method_73_code 5 (some (.object "java/math/BigInteger")) ws ⟨5, 9, 23, 82⟩ Z h0 #[(.ref a1), (.ref a2)] (fun v h L => ∃ (gb gm : Addr), v = some (.ref gb) ∧ Fr n0 L ∧ Keep h0 h [] ∧ Fl7 Z h gb ∧ Fl6 Z h gb (.int 1) ∧ Fl5 Z h gb (.ref gm) ∧ Fl4 Z h gm ∧ Ax Z h gm .int [(.int 1)]) := by
 refine own_body (n0 := n0) (plainFor_of_name pn_24) (fun m => ef_14 m a1 a2) ?_
 intro p e s m below meth c s₁ hZ hx hby hml hown hlk hret hnm X0 e0 N0
 show Aq s₁ 0 #[vr a1, vr a2, vu, vu, vu] []
 obtain ⟨rfl, rfl⟩ | ⟨hsg, w0, hw0, rfl⟩ | ⟨hsg, w0, w1, hw0, rfl⟩ := hsh
 ·have f101 : Ax Z h0 ma .int [] := A_ma
  show Aq s₁ 0 #[vr a1, vr a2, vu, vu, vu] []
  refine aN X0 hx hby d14_0 rfl rfl ?_
  obtain ⟨T102, X102, e102, st102⟩ := gF X0 hx hZ hown (tw93 hw) e0 F_a2_signum (g := (mkF m 1 #[vr a1, vr a2, vu, vu, vu] [(.ref a2)])) rfl rfl (hb hby d14_1)
  refine dS st102 ?_
  show Aq T102 4 #[vr a1, vr a2, vu, vu, vu] [(.int 1)]
  refine iY X102 hx hby d14_4 (pc' := 12) ((if0 _ _).trans (feq (by decide)).2) (H := ?_)
  refine aN X102 hx hby d14_12 rfl rfl ?_
  obtain ⟨T103, X103, e103, st103⟩ := gF X102 hx hZ hown (tw93 hw) e102 F_a1_signum (g := (mkF m 13 #[vr a1, vr a2, vu, vu, vu] [(.ref a1)])) rfl rfl (hb hby d14_13)
  refine dS st103 ?_
  show Aq T103 16 #[vr a1, vr a2, vu, vu, vu] [(.int 0)]
  refine iF X103 hx hby d14_16 ((if0 _ _).trans (teq (by decide)).2) ?_
  refine aN X103 hx hby d14_19 rfl rfl ?_
  obtain ⟨v104, T104, L104, X104, hQ104, st104⟩ := cV X103 hx hZ hown (tw285 hw) (tw286 hw) (tw288 hw) (tw287 hw) (tw81 hw) (tw289 hw) (babs l Z a0 hw [] a2  h0 n0 Z0 F_a2_signum) (W := 0) e103 E_a2 (g := (mkF m 20 #[vr a1, vr a2, vu, vu, vu] [(.ref a2)])) rfl hml rfl (argsL := []) (rest := []) (lenOf pd_10 rfl) rfl rfl rfl (hb hby d14_20) rfl
  refine Done.far st104 ?_
  obtain ⟨rfl, N104q, K104q⟩ := hQ104
  show Aq T104 23 #[vr a1, vr a2, vu, vu, vu] [(.ref a2)]
  exact Done.ref X104 hx hlk hret rfl rfl rfl (hb hby d14_23) (by decide) (by decide) ⟨a2, mb, rfl, (Fr.app N0 N104q), ⟨((kr h0 []).trans K104q all0), (E_a2.keep K104q), (F_a2_signum.keep K104q nin0), (F_a2_mag.keep K104q nin0), (E_mb.keep K104q), (A_mb.keep K104q nin0)⟩⟩
 ·have f105 : Ax Z h0 ma .int [(.int w0)] := A_ma
  show Aq s₁ 0 #[vr a1, vr a2, vu, vu, vu] []
  refine aN X0 hx hby d14_0 rfl rfl ?_
  obtain ⟨T106, X106, e106, st106⟩ := gF X0 hx hZ hown (tw93 hw) e0 F_a2_signum (g := (mkF m 1 #[vr a1, vr a2, vu, vu, vu] [(.ref a2)])) rfl rfl (hb hby d14_1)
  refine dS st106 ?_
  show Aq T106 4 #[vr a1, vr a2, vu, vu, vu] [(.int 1)]
  refine iY X106 hx hby d14_4 (pc' := 12) ((if0 _ _).trans (feq (by decide)).2) (H := ?_)
  refine aN X106 hx hby d14_12 rfl rfl ?_
  obtain ⟨T107, X107, e107, st107⟩ := gF X106 hx hZ hown (tw93 hw) e106 F_a1_signum (g := (mkF m 13 #[vr a1, vr a2, vu, vu, vu] [(.ref a1)])) rfl rfl (hb hby d14_13)
  refine dS st107 ?_
  show Aq T107 16 #[vr a1, vr a2, vu, vu, vu] [(.int sg)]
  refine iY X107 hx hby d14_16 (pc' := 24) ((if0 _ _).trans (feq hsg).2) (H := ?_)
  obtain ⟨T108, h108, X108, e108, E108, A108, D108, -, st108⟩ := newO X107 hx hZ hown (tw100 hw) (tw101 hw) (tw102 hw) e107 (g := (mkF m 24 #[vr a1, vr a2, vu, vu, vu] [])) rfl (hb hby d14_24) (by decide) (by decide)
  obtain ⟨b108, gq108⟩ : ∃ z, z = h0.size := ⟨_, rfl⟩
  rw [← gq108] at A108 D108 st108
  have sz_b108 := lb (kr h0 []).1 gq108
  have f109 : Fl2 Z h108 b108 (.int 0) := D108 (Or.inl (tw109 hw)) (ty := .int) (by decide)
  have f110 : Fl1 Z h108 b108 (.int 0) := D108 (Or.inl (tw113 hw)) (ty := .int) (by decide)
  have f111 : Fl0 Z h108 b108 .null := D108 (Or.inl (tw128 hw)) (ty := (.array .int)) (by decide)
  refine dS st108 ?_
  show Aq T108 27 #[vr a1, vr a2, vu, vu, vu] [(.ref b108)]
  refine dU X108 hx hby d14_27 rfl ?_
  refine aN X108 hx hby d14_28 rfl rfl ?_
  have ne113 := nl E_a1.lt gq108
  have ne114 := nl E_ma.lt gq108
  obtain ⟨v112, T112, L112, X112, hQ112, st112⟩ := cI X108 hx hZ hown (tw103 hw) (tw104 hw) (tw102 hw) (tw106 hw) (mib1 l Z a0 hw [] b108 a1 ma w0 h108 n0 (lq Z0 E108.1) A108 f111 f110 f109 (lb Z0 gq108) (F_a1_mag.ext E108) (E_ma.ext E108) (f105.ext E108) ne113.symm ne114.symm) (W := 1) e108 (g := (mkF m 29 #[vr a1, vr a2, vu, vu, vu] [(.ref a1), (.ref b108), (.ref b108)])) rfl hml rfl (argsL := [(.ref a1)]) (rest := [(.ref b108)]) (lenOf pd_11 rfl) rfl rfl rfl (hb hby d14_29) rfl
  refine Done.far st112 ?_
  obtain ⟨bv_112, rfl, N112q, K112q, y112_0, y112_1, y112_2, y112_3, y112_4, y112_5, z112_6⟩ := hQ112
  have sz_bv_112 := lq ((kr h0 []).ext E108).1 z112_6
  have ne115 := nl E_a2.lt gq108
  have ne116 := nl E_mb.lt gq108
  show Aq T112 32 #[vr a1, vr a2, vu, vu, vu] [(.ref b108)]
  refine aT X112 hx hby d14_32 rfl (l' := #[vr a1, vr a2, vr b108, vu, vu]) rfl ?_
  obtain ⟨T117, h117, X117, e117, E117, A117, D117, -, st117⟩ := newO X112 hx hZ hown (tw100 hw) (tw101 hw) (tw102 hw) rfl (g := (mkF m 33 #[vr a1, vr a2, vr b108, vu, vu] [])) rfl (hb hby d14_33) (by decide) (by decide)
  obtain ⟨b117, gq117⟩ : ∃ z, z = T112.heap.size := ⟨_, rfl⟩
  rw [← gq117] at A117 D117 st117
  have sz_b117 := lb (((kr h0 []).ext E108).trans K112q (allS (Or.inr sz_b108) all0)).1 gq117
  have K117 := (((kr h0 []).ext E108).trans K112q (allS (Or.inr sz_b108) all0)).ext E117
  have f118 : Fl2 Z h117 b117 (.int 0) := D117 (Or.inl (tw109 hw)) (ty := .int) (by decide)
  have f119 : Fl1 Z h117 b117 (.int 0) := D117 (Or.inl (tw113 hw)) (ty := .int) (by decide)
  have f120 : Fl0 Z h117 b117 .null := D117 (Or.inl (tw128 hw)) (ty := (.array .int)) (by decide)
  refine dS st117 ?_
  show Aq T117 36 #[vr a1, vr a2, vr b108, vu, vu] [(.ref b117)]
  refine dU X117 hx hby d14_36 rfl ?_
  refine aN X117 hx hby d14_37 rfl rfl ?_
  have ne122 := nl ((E_a2.ext E108).keep K112q).lt gq117
  have ne123 := nl ((E_mb.ext E108).keep K112q).lt gq117
  obtain ⟨v121, T121, L121, X121, hQ121, st121⟩ := cI X117 hx hZ hown (tw103 hw) (tw104 hw) (tw102 hw) (tw106 hw) (mib1 l Z a0 hw [] b117 a2 mb (1 : Int32) h117 n0 (lq (lq (lq Z0 E108.1) K112q.1) E117.1) A117 f120 f119 f118 (lb (lq (lq Z0 E108.1) K112q.1) gq117) (((F_a2_mag.ext E108).keep K112q (ni1 ne115)).ext E117) (((E_mb.ext E108).keep K112q).ext E117) (((A_mb.ext E108).keep K112q (ni1 ne116)).ext E117) ne122.symm ne123.symm) (W := 1) e117 (g := (mkF m 38 #[vr a1, vr a2, vr b108, vu, vu] [(.ref a2), (.ref b117), (.ref b117)])) rfl hml rfl (argsL := [(.ref a2)]) (rest := [(.ref b117)]) (lenOf pd_11 rfl) rfl rfl rfl (hb hby d14_38) rfl
  refine Done.far st121 ?_
  obtain ⟨bv_121, rfl, N121q, K121q, y121_0, y121_1, y121_2, y121_3, y121_4, y121_5, z121_6⟩ := hQ121
  have sz_bv_121 := lq K117.1 z121_6
  have ne124 := nl ((E_a1.ext E108).keep K112q).lt gq117
  have f125 := (((F_a1_signum.ext E108).keep K112q (ni1 ne113)).ext E117).keep K121q (ni1 ne124)
  have f126 := (((F_a1_mag.ext E108).keep K112q (ni1 ne113)).ext E117).keep K121q (ni1 ne124)
  have ne127 := nl ((E_ma.ext E108).keep K112q).lt gq117
  have f128 := (((f105.ext E108).keep K112q (ni1 ne114)).ext E117).keep K121q (ni1 ne127)
  have f129 := (((F_a2_signum.ext E108).keep K112q (ni1 ne115)).ext E117).keep K121q (ni1 ne122)
  have f130 := (((F_a2_mag.ext E108).keep K112q (ni1 ne115)).ext E117).keep K121q (ni1 ne122)
  have f131 := (((A_mb.ext E108).keep K112q (ni1 ne116)).ext E117).keep K121q (ni1 ne123)
  have ne132 := nl y112_0.lt gq117
  have ne133 := nl y112_4.lt gq117
  have Zk121 := lq (lq (lq (lq Z0 E108.1) K112q.1) E117.1) K121q.1
  show Aq T121 41 #[vr a1, vr a2, vr b108, vu, vu] [(.ref b117)]
  refine aT X121 hx hby d14_41 rfl (l' := #[vr a1, vr a2, vr b108, vr b117, vu]) rfl ?_
  refine aN X121 hx hby d14_42 rfl rfl ?_
  refine aN X121 hx hby d14_43 rfl rfl ?_
  have ne135 := nz A108.lt z112_6
  have ne136 := nz (y112_0.ext E117).lt z121_6
  have ne137 := nz (y112_4.ext E117).lt z121_6
  have ne138 := nz A117.lt z121_6
  obtain ⟨v134, T134, L134, X134, hQ134, st134⟩ := cV X121 hx hZ hown (tw129 hw) (tw130 hw) (tw132 hw) (tw131 hw) (tw102 hw) (tw133 hw) (hg1 l Z a0 hw [] b108 b117 bv_112 bv_121 w0 T121.heap n0 Zk121 ((y112_0.ext E117).keep K121q) ((y112_1.ext E117).keep K121q (ni1 ne132)) ((y112_2.ext E117).keep K121q (ni1 ne132)) ((y112_3.ext E117).keep K121q (ni1 ne132)) ((y112_4.ext E117).keep K121q (ni1 ne133)) y121_0 y121_1 y121_2 y121_3 y121_4 (lb Z0 gq108) (lq (lq Z0 E108.1) z112_6) (lb (lq (lq Z0 E108.1) K112q.1) gq117) (lq (lq (lq (lq Z0 E108.1) K112q.1) E117.1) z121_6) ne135 ne132 ne136 ne133 ne137 ne138 hw0) (W := 0) rfl ((y112_0.ext E117).keep K121q) (g := (mkF m 44 #[vr a1, vr a2, vr b108, vr b117, vu] [(.ref b117), (.ref b108)])) rfl hml rfl (argsL := [(.ref b117)]) (rest := []) (lenOf pd_9 rfl) rfl rfl rfl (hb hby d14_44) rfl
  refine Done.far st134 ?_
  obtain ⟨r0_134, rv_134, rfl, N134q, K134q, y134_0, y134_1, y134_2, y134_3, y134_4, y134_5, z134_6, z134_7, ne134_8⟩ := hQ134
  have sz_r0_134 := lq (K117.trans K121q (allS (Or.inr sz_b117) all0)).1 z134_6
  have sz_rv_134 := lq (K117.trans K121q (allS (Or.inr sz_b117) all0)).1 z134_7
  have ne139 := nz (E_a1.ext E108).lt z112_6
  have ne140 := nz (((E_a1.ext E108).keep K112q).ext E117).lt z121_6
  have ne141 := nz (E_ma.ext E108).lt z112_6
  have ne142 := nz (((E_ma.ext E108).keep K112q).ext E117).lt z121_6
  have ne143 := nz (E_a2.ext E108).lt z112_6
  have ne144 := nz (((E_a2.ext E108).keep K112q).ext E117).lt z121_6
  have ne145 := nz (E_mb.ext E108).lt z112_6
  have ne146 := nz (((E_mb.ext E108).keep K112q).ext E117).lt z121_6
  have Kk134 := (K117.trans K121q (allS (Or.inr sz_b117) all0)).trans K134q (allS (Or.inr sz_b108) (allS (Or.inr sz_bv_112) (allS (Or.inr sz_b117) (allS (Or.inr sz_bv_121) all0))))
  show Aq T134 47 #[vr a1, vr a2, vr b108, vr b117, vu] [(.ref r0_134)]
  refine aS X134 hx hby d14_47 rfl (l' := #[vr a1, vr a2, vr b108, vr b117, vr r0_134]) rfl ?_
  refine aL X134 hx hby d14_49 rfl rfl ?_
  refine iC X134 hx hby d14_51 (z := 1) rfl ?_
  obtain ⟨v147, T147, L147, X147, hQ147, st147⟩ := cV X134 hx hZ hown (tw176 hw) (tw177 hw) (tw179 hw) (tw178 hw) (tw102 hw) (tw180 hw) (tbi1 l Z a0 hw [] r0_134 (1 : Int32) rv_134 (1 : Int32) T134.heap n0 (lq Zk121 K134q.1) y134_0 y134_1 y134_2 y134_3 y134_4 (by decide)) (W := 0) rfl y134_0 (g := (mkF m 52 #[vr a1, vr a2, vr b108, vr b117, vr r0_134] [(.int 1), (.ref r0_134)])) rfl hml rfl (argsL := [(.int 1)]) (rest := []) (lenOf pd_12 rfl) rfl rfl rfl (hb hby d14_52) rfl
  refine Done.far st147 ?_
  obtain ⟨bb_147, rfl, N147q, K147q, y147_0, y147_1, y147_2, z147_3⟩ := hQ147
  have sz_bb_147 := lq Kk134.1 z147_3
  have f148 := (((((E_a1.ext E108).keep K112q).ext E117).keep K121q).keep K134q).keep K147q
  have f149 := (((((E_ma.ext E108).keep K112q).ext E117).keep K121q).keep K134q).keep K147q
  have f150 := (((((E_a2.ext E108).keep K112q).ext E117).keep K121q).keep K134q).keep K147q
  have f151 := (((((E_mb.ext E108).keep K112q).ext E117).keep K121q).keep K134q).keep K147q
  show Aq T147 55 #[vr a1, vr a2, vr b108, vr b117, vr r0_134] [(.ref bb_147)]
  exact Done.ref X147 hx hlk hret rfl rfl rfl (hb hby d14_55) (by decide) (by decide) ⟨bb_147, rv_134, rfl, (Fr.app (Fr.app (Fr.app (Fr.app N0 N112q) N121q) N134q) N147q), ⟨(Kk134.trans K147q all0), y147_0, y147_1, y147_2, (y134_5.keep K147q), (y134_4.keep K147q nin0)⟩⟩
 ·have f152 : Ax Z h0 ma .int [(.int w0), (.int w1)] := A_ma
  show Aq s₁ 0 #[vr a1, vr a2, vu, vu, vu] []
  refine aN X0 hx hby d14_0 rfl rfl ?_
  obtain ⟨T153, X153, e153, st153⟩ := gF X0 hx hZ hown (tw93 hw) e0 F_a2_signum (g := (mkF m 1 #[vr a1, vr a2, vu, vu, vu] [(.ref a2)])) rfl rfl (hb hby d14_1)
  refine dS st153 ?_
  show Aq T153 4 #[vr a1, vr a2, vu, vu, vu] [(.int 1)]
  refine iY X153 hx hby d14_4 (pc' := 12) ((if0 _ _).trans (feq (by decide)).2) (H := ?_)
  refine aN X153 hx hby d14_12 rfl rfl ?_
  obtain ⟨T154, X154, e154, st154⟩ := gF X153 hx hZ hown (tw93 hw) e153 F_a1_signum (g := (mkF m 13 #[vr a1, vr a2, vu, vu, vu] [(.ref a1)])) rfl rfl (hb hby d14_13)
  refine dS st154 ?_
  show Aq T154 16 #[vr a1, vr a2, vu, vu, vu] [(.int sg)]
  refine iY X154 hx hby d14_16 (pc' := 24) ((if0 _ _).trans (feq hsg).2) (H := ?_)
  obtain ⟨T155, h155, X155, e155, E155, A155, D155, -, st155⟩ := newO X154 hx hZ hown (tw100 hw) (tw101 hw) (tw102 hw) e154 (g := (mkF m 24 #[vr a1, vr a2, vu, vu, vu] [])) rfl (hb hby d14_24) (by decide) (by decide)
  obtain ⟨b155, gq155⟩ : ∃ z, z = h0.size := ⟨_, rfl⟩
  rw [← gq155] at A155 D155 st155
  have sz_b155 := lb (kr h0 []).1 gq155
  have f156 : Fl2 Z h155 b155 (.int 0) := D155 (Or.inl (tw109 hw)) (ty := .int) (by decide)
  have f157 : Fl1 Z h155 b155 (.int 0) := D155 (Or.inl (tw113 hw)) (ty := .int) (by decide)
  have f158 : Fl0 Z h155 b155 .null := D155 (Or.inl (tw128 hw)) (ty := (.array .int)) (by decide)
  refine dS st155 ?_
  show Aq T155 27 #[vr a1, vr a2, vu, vu, vu] [(.ref b155)]
  refine dU X155 hx hby d14_27 rfl ?_
  refine aN X155 hx hby d14_28 rfl rfl ?_
  have ne160 := nl E_a1.lt gq155
  have ne161 := nl E_ma.lt gq155
  obtain ⟨v159, T159, L159, X159, hQ159, st159⟩ := cI X155 hx hZ hown (tw103 hw) (tw104 hw) (tw102 hw) (tw106 hw) (mib2 l Z a0 hw [] b155 a1 ma w0 w1 h155 n0 (lq Z0 E155.1) A155 f158 f157 f156 (lb Z0 gq155) (F_a1_mag.ext E155) (E_ma.ext E155) (f152.ext E155) ne160.symm ne161.symm) (W := 1) e155 (g := (mkF m 29 #[vr a1, vr a2, vu, vu, vu] [(.ref a1), (.ref b155), (.ref b155)])) rfl hml rfl (argsL := [(.ref a1)]) (rest := [(.ref b155)]) (lenOf pd_11 rfl) rfl rfl rfl (hb hby d14_29) rfl
  refine Done.far st159 ?_
  obtain ⟨bv_159, rfl, N159q, K159q, y159_0, y159_1, y159_2, y159_3, y159_4, y159_5, z159_6⟩ := hQ159
  have sz_bv_159 := lq ((kr h0 []).ext E155).1 z159_6
  have ne162 := nl E_a2.lt gq155
  have ne163 := nl E_mb.lt gq155
  show Aq T159 32 #[vr a1, vr a2, vu, vu, vu] [(.ref b155)]
  refine aT X159 hx hby d14_32 rfl (l' := #[vr a1, vr a2, vr b155, vu, vu]) rfl ?_
  obtain ⟨T164, h164, X164, e164, E164, A164, D164, -, st164⟩ := newO X159 hx hZ hown (tw100 hw) (tw101 hw) (tw102 hw) rfl (g := (mkF m 33 #[vr a1, vr a2, vr b155, vu, vu] [])) rfl (hb hby d14_33) (by decide) (by decide)
  obtain ⟨b164, gq164⟩ : ∃ z, z = T159.heap.size := ⟨_, rfl⟩
  rw [← gq164] at A164 D164 st164
  have sz_b164 := lb (((kr h0 []).ext E155).trans K159q (allS (Or.inr sz_b155) all0)).1 gq164
  have K164 := (((kr h0 []).ext E155).trans K159q (allS (Or.inr sz_b155) all0)).ext E164
  have f165 : Fl2 Z h164 b164 (.int 0) := D164 (Or.inl (tw109 hw)) (ty := .int) (by decide)
  have f166 : Fl1 Z h164 b164 (.int 0) := D164 (Or.inl (tw113 hw)) (ty := .int) (by decide)
  have f167 : Fl0 Z h164 b164 .null := D164 (Or.inl (tw128 hw)) (ty := (.array .int)) (by decide)
  refine dS st164 ?_
  show Aq T164 36 #[vr a1, vr a2, vr b155, vu, vu] [(.ref b164)]
  refine dU X164 hx hby d14_36 rfl ?_
  refine aN X164 hx hby d14_37 rfl rfl ?_
  have ne169 := nl ((E_a2.ext E155).keep K159q).lt gq164
  have ne170 := nl ((E_mb.ext E155).keep K159q).lt gq164
  obtain ⟨v168, T168, L168, X168, hQ168, st168⟩ := cI X164 hx hZ hown (tw103 hw) (tw104 hw) (tw102 hw) (tw106 hw) (mib1 l Z a0 hw [] b164 a2 mb (1 : Int32) h164 n0 (lq (lq (lq Z0 E155.1) K159q.1) E164.1) A164 f167 f166 f165 (lb (lq (lq Z0 E155.1) K159q.1) gq164) (((F_a2_mag.ext E155).keep K159q (ni1 ne162)).ext E164) (((E_mb.ext E155).keep K159q).ext E164) (((A_mb.ext E155).keep K159q (ni1 ne163)).ext E164) ne169.symm ne170.symm) (W := 1) e164 (g := (mkF m 38 #[vr a1, vr a2, vr b155, vu, vu] [(.ref a2), (.ref b164), (.ref b164)])) rfl hml rfl (argsL := [(.ref a2)]) (rest := [(.ref b164)]) (lenOf pd_11 rfl) rfl rfl rfl (hb hby d14_38) rfl
  refine Done.far st168 ?_
  obtain ⟨bv_168, rfl, N168q, K168q, y168_0, y168_1, y168_2, y168_3, y168_4, y168_5, z168_6⟩ := hQ168
  have sz_bv_168 := lq K164.1 z168_6
  have ne171 := nl ((E_a1.ext E155).keep K159q).lt gq164
  have f172 := (((F_a1_signum.ext E155).keep K159q (ni1 ne160)).ext E164).keep K168q (ni1 ne171)
  have f173 := (((F_a1_mag.ext E155).keep K159q (ni1 ne160)).ext E164).keep K168q (ni1 ne171)
  have ne174 := nl ((E_ma.ext E155).keep K159q).lt gq164
  have f175 := (((f152.ext E155).keep K159q (ni1 ne161)).ext E164).keep K168q (ni1 ne174)
  have f176 := (((F_a2_signum.ext E155).keep K159q (ni1 ne162)).ext E164).keep K168q (ni1 ne169)
  have f177 := (((F_a2_mag.ext E155).keep K159q (ni1 ne162)).ext E164).keep K168q (ni1 ne169)
  have f178 := (((A_mb.ext E155).keep K159q (ni1 ne163)).ext E164).keep K168q (ni1 ne170)
  have ne179 := nl y159_0.lt gq164
  have ne180 := nl y159_4.lt gq164
  have Zk168 := lq (lq (lq (lq Z0 E155.1) K159q.1) E164.1) K168q.1
  show Aq T168 41 #[vr a1, vr a2, vr b155, vu, vu] [(.ref b164)]
  refine aT X168 hx hby d14_41 rfl (l' := #[vr a1, vr a2, vr b155, vr b164, vu]) rfl ?_
  refine aN X168 hx hby d14_42 rfl rfl ?_
  refine aN X168 hx hby d14_43 rfl rfl ?_
  have ne182 := nz A155.lt z159_6
  have ne183 := nz (y159_0.ext E164).lt z168_6
  have ne184 := nz (y159_4.ext E164).lt z168_6
  have ne185 := nz A164.lt z168_6
  obtain ⟨v181, T181, L181, X181, hQ181, st181⟩ := cV X168 hx hZ hown (tw129 hw) (tw130 hw) (tw132 hw) (tw131 hw) (tw102 hw) (tw133 hw) (hg2 l Z a0 hw [] b155 b164 bv_159 bv_168 w0 w1 T168.heap n0 Zk168 ((y159_0.ext E164).keep K168q) ((y159_1.ext E164).keep K168q (ni1 ne179)) ((y159_2.ext E164).keep K168q (ni1 ne179)) ((y159_3.ext E164).keep K168q (ni1 ne179)) ((y159_4.ext E164).keep K168q (ni1 ne180)) y168_0 y168_1 y168_2 y168_3 y168_4 (lb Z0 gq155) (lq (lq Z0 E155.1) z159_6) (lb (lq (lq Z0 E155.1) K159q.1) gq164) (lq (lq (lq (lq Z0 E155.1) K159q.1) E164.1) z168_6) ne182 ne179 ne183 ne180 ne184 ne185 hw0) (W := 0) rfl ((y159_0.ext E164).keep K168q) (g := (mkF m 44 #[vr a1, vr a2, vr b155, vr b164, vu] [(.ref b164), (.ref b155)])) rfl hml rfl (argsL := [(.ref b164)]) (rest := []) (lenOf pd_9 rfl) rfl rfl rfl (hb hby d14_44) rfl
  refine Done.far st181 ?_
  obtain ⟨r0_181, rv_181, rfl, N181q, K181q, y181_0, y181_1, y181_2, y181_3, y181_4, y181_5, z181_6, z181_7, ne181_8⟩ := hQ181
  have sz_r0_181 := lq (K164.trans K168q (allS (Or.inr sz_b164) all0)).1 z181_6
  have sz_rv_181 := lq (K164.trans K168q (allS (Or.inr sz_b164) all0)).1 z181_7
  have ne186 := nz (E_a1.ext E155).lt z159_6
  have ne187 := nz (((E_a1.ext E155).keep K159q).ext E164).lt z168_6
  have ne188 := nz (E_ma.ext E155).lt z159_6
  have ne189 := nz (((E_ma.ext E155).keep K159q).ext E164).lt z168_6
  have ne190 := nz (E_a2.ext E155).lt z159_6
  have ne191 := nz (((E_a2.ext E155).keep K159q).ext E164).lt z168_6
  have ne192 := nz (E_mb.ext E155).lt z159_6
  have ne193 := nz (((E_mb.ext E155).keep K159q).ext E164).lt z168_6
  have Kk181 := (K164.trans K168q (allS (Or.inr sz_b164) all0)).trans K181q (allS (Or.inr sz_b155) (allS (Or.inr sz_bv_159) (allS (Or.inr sz_b164) (allS (Or.inr sz_bv_168) all0))))
  show Aq T181 47 #[vr a1, vr a2, vr b155, vr b164, vu] [(.ref r0_181)]
  refine aS X181 hx hby d14_47 rfl (l' := #[vr a1, vr a2, vr b155, vr b164, vr r0_181]) rfl ?_
  refine aL X181 hx hby d14_49 rfl rfl ?_
  refine iC X181 hx hby d14_51 (z := 1) rfl ?_
  obtain ⟨v194, T194, L194, X194, hQ194, st194⟩ := cV X181 hx hZ hown (tw176 hw) (tw177 hw) (tw179 hw) (tw178 hw) (tw102 hw) (tw180 hw) (tbi1 l Z a0 hw [] r0_181 (1 : Int32) rv_181 (1 : Int32) T181.heap n0 (lq Zk168 K181q.1) y181_0 y181_1 y181_2 y181_3 y181_4 (by decide)) (W := 0) rfl y181_0 (g := (mkF m 52 #[vr a1, vr a2, vr b155, vr b164, vr r0_181] [(.int 1), (.ref r0_181)])) rfl hml rfl (argsL := [(.int 1)]) (rest := []) (lenOf pd_12 rfl) rfl rfl rfl (hb hby d14_52) rfl
  refine Done.far st194 ?_
  obtain ⟨bb_194, rfl, N194q, K194q, y194_0, y194_1, y194_2, z194_3⟩ := hQ194
  have sz_bb_194 := lq Kk181.1 z194_3
  have f195 := (((((E_a1.ext E155).keep K159q).ext E164).keep K168q).keep K181q).keep K194q
  have f196 := (((((E_ma.ext E155).keep K159q).ext E164).keep K168q).keep K181q).keep K194q
  have f197 := (((((E_a2.ext E155).keep K159q).ext E164).keep K168q).keep K181q).keep K194q
  have f198 := (((((E_mb.ext E155).keep K159q).ext E164).keep K168q).keep K181q).keep K194q
  show Aq T194 55 #[vr a1, vr a2, vr b155, vr b164, vr r0_181] [(.ref bb_194)]
  exact Done.ref X194 hx hlk hret rfl rfl rfl (hb hby d14_55) (by decide) (by decide) ⟨bb_194, rv_181, rfl, (Fr.app (Fr.app (Fr.app (Fr.app N0 N159q) N168q) N181q) N194q), ⟨(Kk181.trans K194q all0), y194_0, y194_1, y194_2, (y181_5.keep K194q), (y181_4.keep K194q nin0)⟩⟩
theorem d38_0 : dq cd25 0 (.iload_n 1) 1 := by decide +kernel
theorem d38_1 : dq cd25 1 .i2l 1 := by decide +kernel
theorem d38_2 : dq cd25 2 (.ldc2_w 52) 3 := by decide +kernel
theorem d38_5 : dq cd25 5 .land 1 := by decide +kernel
theorem d38_6 : dq cd25 6 (.lstore_n 3) 1 := by decide +kernel
theorem d38_7 : dq cd25 7 (.aload_n 0) 1 := by decide +kernel
theorem d38_8 : dq cd25 8 (.getfield 21) 3 := by decide +kernel
theorem d38_11 : dq cd25 11 (.iconst 1) 1 := by decide +kernel
theorem d38_12 : dq cd25 12 (.if_icmp .ne 67) 3 := by decide +kernel
theorem d38_15 : dq cd25 15 (.aload_n 0) 1 := by decide +kernel
theorem d38_16 : dq cd25 16 (.getfield 17) 3 := by decide +kernel
theorem d38_19 : dq cd25 19 (.aload_n 0) 1 := by decide +kernel
theorem d38_20 : dq cd25 20 (.getfield 11) 3 := by decide +kernel
theorem d38_23 : dq cd25 23 .iaload 1 := by decide +kernel
theorem d38_24 : dq cd25 24 .i2l 1 := by decide +kernel
theorem d38_25 : dq cd25 25 (.ldc2_w 52) 3 := by decide +kernel
theorem d38_28 : dq cd25 28 .land 1 := by decide +kernel
theorem d38_29 : dq cd25 29 (.lstore 5) 2 := by decide +kernel
theorem d38_31 : dq cd25 31 (.lload 5) 2 := by decide +kernel
theorem d38_33 : dq cd25 33 (.lload_n 3) 1 := by decide +kernel
theorem d38_34 : dq cd25 34 .ldiv 1 := by decide +kernel
theorem d38_35 : dq cd25 35 .l2i 1 := by decide +kernel
theorem d38_36 : dq cd25 36 (.istore 7) 2 := by decide +kernel
theorem d38_38 : dq cd25 38 (.lload 5) 2 := by decide +kernel
theorem d38_40 : dq cd25 40 (.iload 7) 2 := by decide +kernel
theorem d38_42 : dq cd25 42 .i2l 1 := by decide +kernel
theorem d38_43 : dq cd25 43 (.lload_n 3) 1 := by decide +kernel
theorem d38_44 : dq cd25 44 .lmul 1 := by decide +kernel
theorem d38_45 : dq cd25 45 .lsub 1 := by decide +kernel
theorem d38_46 : dq cd25 46 .l2i 1 := by decide +kernel
theorem d38_47 : dq cd25 47 (.istore 8) 2 := by decide +kernel
theorem d38_49 : dq cd25 49 (.aload_n 2) 1 := by decide +kernel
theorem d38_50 : dq cd25 50 (.getfield 17) 3 := by decide +kernel
theorem d38_53 : dq cd25 53 (.iconst 0) 1 := by decide +kernel
theorem d38_54 : dq cd25 54 (.iload 7) 2 := by decide +kernel
theorem d38_56 : dq cd25 56 .iastore 1 := by decide +kernel
theorem d38_57 : dq cd25 57 (.aload_n 2) 1 := by decide +kernel
theorem d38_58 : dq cd25 58 (.iload 7) 2 := by decide +kernel
theorem d38_60 : dq cd25 60 (.ifCond .ne 7) 3 := by decide +kernel
theorem d38_67 : dq cd25 67 (.iconst 1) 1 := by decide +kernel
theorem d38_68 : dq cd25 68 (.putfield 21) 3 := by decide +kernel
theorem d38_71 : dq cd25 71 (.aload_n 2) 1 := by decide +kernel
theorem d38_72 : dq cd25 72 (.iconst 0) 1 := by decide +kernel
theorem d38_73 : dq cd25 73 (.putfield 11) 3 := by decide +kernel
theorem d38_76 : dq cd25 76 (.iload 8) 2 := by decide +kernel
theorem d38_78 : dq cd25 78 .ireturn 1 := by decide +kernel
theorem ef_38 (m : MethodId) (a1 : Addr) (p2 : Int32) (a3 : Addr) : entryFrame m #[(.ref a1), (.int p2), (.ref a3)] 15 = mkF m 0 #[.val (.ref a1), .val (.int p2), .val (.ref a3), .unset, .unset, .unset, .unset, .unset, .unset, .unset, .unset, .unset, .unset, .unset, .unset] [] := by first | (simp [entryFrame, mkF, argsToLocals, Value.category]; done) | rfl
theorem dow1 (l : Launch) (Z : State) (a0 : Array Value) (hw : HH a0 Z) (ws : List Jvm.Cond) (a1 : Addr) (p2 : Int32) (a3 va : Addr) (w0 : Int32) (vq : Addr) (h0 : Heap) (n0 : Nat) (Z0 : n0 ≤ h0.size) (hl_p2 : p2 = (1 : Int32)) (E_a1 : Fl3 Z h0 a1) (F_a1_value : Fl0 Z h0 a1 (.ref va)) (F_a1_intLen : Fl1 Z h0 a1 (.int 1)) (F_a1_offset : Fl2 Z h0 a1 (.int 0)) (A_va : Ax Z h0 va .int [(.int w0)]) (E_a3 : Fl3 Z h0 a3) (F_a3_value : Fl0 Z h0 a3 (.ref vq)) (F_a3_intLen : Fl1 Z h0 a3 (.int 0)) (F_a3_offset : Fl2 Z h0 a3 (.int 0)) (A_vq : Ax Z h0 vq .int [(.int 0)]) (g_a3 : n0 ≤ a3) (g_vq : n0 ≤ vq) (ne_a3_vq : a3 ≠ vq) (ne_a3_a1 : a3 ≠ a1) (ne_a3_va : a3 ≠ va) (ne_vq_a1 : vq ≠ a1) (ne_vq_va : vq ≠ va) (hw0 : ¬ w0 = (0 : Int32)) : MF l "java/math/MutableBigInteger" "divideOneWord" "(ILjava/math/MutableBigInteger;)I" jdk_2101_method_53_code 15 (some .int) ws ⟨0, 0, 0, 0⟩ Z h0 #[(.ref a1), (.int p2), (.ref a3)] (fun v h L => v = some (.int 0) ∧ Fr n0 L ∧ Keep h0 h [a3, vq] ∧ Fl3 Z h a3 ∧ Fl0 Z h a3 (.ref vq) ∧ Fl1 Z h a3 (.int 1) ∧ Fl2 Z h a3 (.int 0) ∧ Ax Z h vq .int [(.int w0)]) := by
 refine own_body (n0 := n0) (plainFor_of_name pn_27) (fun m => ef_38 m a1 p2 a3) ?_
 intro p e s m below meth c s₁ hZ hx hby hml hown hlk hret hnm X0 e0 N0
 subst hl_p2
 show Aq s₁ 0 #[vr a1, vi 1, vr a3, vu, vu, vu, vu, vu, vu, vu, vu, vu, vu, vu, vu] []
 refine iN X0 hx hby d38_0 rfl ?_
 refine dS (fun t k => XS.i2l X0.here hx rfl (hb hby d38_1) rfl k) ?_
 show Aq s₁ 2 #[vr a1, vi 1, vr a3, vu, vu, vu, vu, vu, vu, vu, vu, vu, vu, vu, vu] [(.long ((1 : Int32)).toInt64)]
 refine dS (X0.ldc2Long hx hown (mvT hZ (tw238 hw)) (g := (mkF m 2 #[vr a1, vi 1, vr a3, vu, vu, vu, vu, vu, vu, vu, vu, vu, vu, vu, vu] [(.long ((1 : Int32)).toInt64)])) rfl (hb hby d38_2)) ?_
 show Aq s₁ 5 #[vr a1, vi 1, vr a3, vu, vu, vu, vu, vu, vu, vu, vu, vu, vu, vu, vu] [(.long 4294967295), (.long ((1 : Int32)).toInt64)]
 refine dS (fun t k => XS.land X0.here hx rfl (hb hby d38_5) rfl k) ?_
 show Aq s₁ 6 #[vr a1, vi 1, vr a3, vu, vu, vu, vu, vu, vu, vu, vu, vu, vu, vu, vu] [(.long (((1 : Int32)).toInt64 &&& (4294967295 : Int64)))]
 rw [show (((1 : Int32)).toInt64 &&& (4294967295 : Int64)) = (1 : Int64) from (by decide)]
 show Aq s₁ 6 #[vr a1, vi 1, vr a3, vu, vu, vu, vu, vu, vu, vu, vu, vu, vu, vu, vu] [(.long 1)]
 refine dS (fun t k => XS.lstoreN X0.here hx rfl (hb hby d38_6) rfl (l' := #[vr a1, vi 1, vr a3, vj 1, vz, vu, vu, vu, vu, vu, vu, vu, vu, vu, vu]) rfl k) ?_
 show Aq s₁ 7 #[vr a1, vi 1, vr a3, vj 1, vz, vu, vu, vu, vu, vu, vu, vu, vu, vu, vu] []
 refine aN X0 hx hby d38_7 rfl rfl ?_
 obtain ⟨T101, X101, e101, st101⟩ := gF X0 hx hZ hown (tw112 hw) e0 F_a1_intLen (g := (mkF m 8 #[vr a1, vi 1, vr a3, vj 1, vz, vu, vu, vu, vu, vu, vu, vu, vu, vu, vu] [(.ref a1)])) rfl rfl (hb hby d38_8)
 refine dS st101 ?_
 show Aq T101 11 #[vr a1, vi 1, vr a3, vj 1, vz, vu, vu, vu, vu, vu, vu, vu, vu, vu, vu] [(.int 1)]
 refine iC X101 hx hby d38_11 (z := 1) rfl ?_
 refine cF X101 hx hby d38_12 (teq (by decide)).2 ?_
 refine aN X101 hx hby d38_15 rfl rfl ?_
 obtain ⟨T102, X102, e102, st102⟩ := gF X101 hx hZ hown (tw127 hw) e101 F_a1_value (g := (mkF m 16 #[vr a1, vi 1, vr a3, vj 1, vz, vu, vu, vu, vu, vu, vu, vu, vu, vu, vu] [(.ref a1)])) rfl rfl (hb hby d38_16)
 refine dS st102 ?_
 show Aq T102 19 #[vr a1, vi 1, vr a3, vj 1, vz, vu, vu, vu, vu, vu, vu, vu, vu, vu, vu] [(.ref va)]
 refine aN X102 hx hby d38_19 rfl rfl ?_
 obtain ⟨T103, X103, e103, st103⟩ := gF X102 hx hZ hown (tw108 hw) e102 F_a1_offset (g := (mkF m 20 #[vr a1, vi 1, vr a3, vj 1, vz, vu, vu, vu, vu, vu, vu, vu, vu, vu, vu] [(.ref a1), (.ref va)])) rfl rfl (hb hby d38_20)
 refine dS st103 ?_
 show Aq T103 23 #[vr a1, vi 1, vr a3, vj 1, vz, vu, vu, vu, vu, vu, vu, vu, vu, vu, vu] [(.int 0), (.ref va)]
 refine dS (ldI X103 hx hZ e103 A_va (j := (0 : Int32)) (x := (.int w0)) (by decide) rfl (g := (mkF m 23 #[vr a1, vi 1, vr a3, vj 1, vz, vu, vu, vu, vu, vu, vu, vu, vu, vu, vu] [(.int 0), (.ref va)])) rfl rfl (hb hby d38_23)) ?_
 show Aq T103 24 #[vr a1, vi 1, vr a3, vj 1, vz, vu, vu, vu, vu, vu, vu, vu, vu, vu, vu] [(.int w0)]
 refine dS (fun t k => XS.i2l X103.here hx rfl (hb hby d38_24) rfl k) ?_
 show Aq T103 25 #[vr a1, vi 1, vr a3, vj 1, vz, vu, vu, vu, vu, vu, vu, vu, vu, vu, vu] [(.long (w0).toInt64)]
 refine dS (X103.ldc2Long hx hown (mvT hZ (tw238 hw)) (g := (mkF m 25 #[vr a1, vi 1, vr a3, vj 1, vz, vu, vu, vu, vu, vu, vu, vu, vu, vu, vu] [(.long (w0).toInt64)])) rfl (hb hby d38_25)) ?_
 show Aq T103 28 #[vr a1, vi 1, vr a3, vj 1, vz, vu, vu, vu, vu, vu, vu, vu, vu, vu, vu] [(.long 4294967295), (.long (w0).toInt64)]
 refine dS (fun t k => XS.land X103.here hx rfl (hb hby d38_28) rfl k) ?_
 show Aq T103 29 #[vr a1, vi 1, vr a3, vj 1, vz, vu, vu, vu, vu, vu, vu, vu, vu, vu, vu] [(.long ((w0).toInt64 &&& (4294967295 : Int64)))]
 refine dS (fun t k => XS.lstore X103.here hx rfl (hb hby d38_29) rfl (l' := #[vr a1, vi 1, vr a3, vj 1, vz, vj ((w0).toInt64 &&& (4294967295 : Int64)), vz, vu, vu, vu, vu, vu, vu, vu, vu]) rfl k) ?_
 show Aq T103 31 #[vr a1, vi 1, vr a3, vj 1, vz, vj ((w0).toInt64 &&& (4294967295 : Int64)), vz, vu, vu, vu, vu, vu, vu, vu, vu] []
 refine jL X103 hx hby d38_31 rfl ?_
 refine jN X103 hx hby d38_33 rfl ?_
 refine dS (fun t k => XS.ldiv X103.here hx rfl (hb hby d38_34) rfl (by decide) k) ?_
 show Aq T103 35 #[vr a1, vi 1, vr a3, vj 1, vz, vj ((w0).toInt64 &&& (4294967295 : Int64)), vz, vu, vu, vu, vu, vu, vu, vu, vu] [(.long (((w0).toInt64 &&& (4294967295 : Int64)) / (1 : Int64)))]
 refine dS (fun t k => XS.l2i X103.here hx rfl (hb hby d38_35) rfl k) ?_
 show Aq T103 36 #[vr a1, vi 1, vr a3, vj 1, vz, vj ((w0).toInt64 &&& (4294967295 : Int64)), vz, vu, vu, vu, vu, vu, vu, vu, vu] [(.int ((((w0).toInt64 &&& (4294967295 : Int64)) / (1 : Int64))).toInt32)]
 rw [show ((((w0).toInt64 &&& (4294967295 : Int64)) / (1 : Int64))).toInt32 = w0 from (own_q1 w0)]
 show Aq T103 36 #[vr a1, vi 1, vr a3, vj 1, vz, vj ((w0).toInt64 &&& (4294967295 : Int64)), vz, vu, vu, vu, vu, vu, vu, vu, vu] [(.int w0)]
 refine sL X103 hx hby d38_36 (l' := #[vr a1, vi 1, vr a3, vj 1, vz, vj ((w0).toInt64 &&& (4294967295 : Int64)), vz, vi w0, vu, vu, vu, vu, vu, vu, vu]) rfl ?_
 refine jL X103 hx hby d38_38 rfl ?_
 refine iL X103 hx hby d38_40 rfl ?_
 refine dS (fun t k => XS.i2l X103.here hx rfl (hb hby d38_42) rfl k) ?_
 show Aq T103 43 #[vr a1, vi 1, vr a3, vj 1, vz, vj ((w0).toInt64 &&& (4294967295 : Int64)), vz, vi w0, vu, vu, vu, vu, vu, vu, vu] [(.long (w0).toInt64), (.long ((w0).toInt64 &&& (4294967295 : Int64)))]
 refine jN X103 hx hby d38_43 rfl ?_
 refine dS (fun t k => XS.lmul X103.here hx rfl (hb hby d38_44) rfl k) ?_
 show Aq T103 45 #[vr a1, vi 1, vr a3, vj 1, vz, vj ((w0).toInt64 &&& (4294967295 : Int64)), vz, vi w0, vu, vu, vu, vu, vu, vu, vu] [(.long ((w0).toInt64 * (1 : Int64))), (.long ((w0).toInt64 &&& (4294967295 : Int64)))]
 refine dS (fun t k => XS.lsub X103.here hx rfl (hb hby d38_45) rfl k) ?_
 show Aq T103 46 #[vr a1, vi 1, vr a3, vj 1, vz, vj ((w0).toInt64 &&& (4294967295 : Int64)), vz, vi w0, vu, vu, vu, vu, vu, vu, vu] [(.long (((w0).toInt64 &&& (4294967295 : Int64)) - ((w0).toInt64 * (1 : Int64))))]
 refine dS (fun t k => XS.l2i X103.here hx rfl (hb hby d38_46) rfl k) ?_
 show Aq T103 47 #[vr a1, vi 1, vr a3, vj 1, vz, vj ((w0).toInt64 &&& (4294967295 : Int64)), vz, vi w0, vu, vu, vu, vu, vu, vu, vu] [(.int ((((w0).toInt64 &&& (4294967295 : Int64)) - ((w0).toInt64 * (1 : Int64)))).toInt32)]
 rw [show ((((w0).toInt64 &&& (4294967295 : Int64)) - ((w0).toInt64 * (1 : Int64)))).toInt32 = (0 : Int32) from (own_r1 w0)]
 show Aq T103 47 #[vr a1, vi 1, vr a3, vj 1, vz, vj ((w0).toInt64 &&& (4294967295 : Int64)), vz, vi w0, vu, vu, vu, vu, vu, vu, vu] [(.int 0)]
 refine sL X103 hx hby d38_47 (l' := #[vr a1, vi 1, vr a3, vj 1, vz, vj ((w0).toInt64 &&& (4294967295 : Int64)), vz, vi w0, vi 0, vu, vu, vu, vu, vu, vu]) rfl ?_
 refine aN X103 hx hby d38_49 rfl rfl ?_
 obtain ⟨T104, X104, e104, st104⟩ := gF X103 hx hZ hown (tw127 hw) e103 F_a3_value (g := (mkF m 50 #[vr a1, vi 1, vr a3, vj 1, vz, vj ((w0).toInt64 &&& (4294967295 : Int64)), vz, vi w0, vi 0, vu, vu, vu, vu, vu, vu] [(.ref a3)])) rfl rfl (hb hby d38_50)
 refine dS st104 ?_
 show Aq T104 53 #[vr a1, vi 1, vr a3, vj 1, vz, vj ((w0).toInt64 &&& (4294967295 : Int64)), vz, vi w0, vi 0, vu, vu, vu, vu, vu, vu] [(.ref vq)]
 refine iC X104 hx hby d38_53 (z := 0) rfl ?_
 refine iL X104 hx hby d38_54 rfl ?_
 obtain ⟨T105, h105, X105, e105, W105, A105, st105⟩ := stoI X104 hx hZ e104 A_vq (j := (0 : Int32)) (by decide) (i := 0) (by decide) (Nat.le_of_ble_eq_true rfl) (g := (mkF m 56 #[vr a1, vi 1, vr a3, vj 1, vz, vj ((w0).toInt64 &&& (4294967295 : Int64)), vz, vi w0, vi 0, vu, vu, vu, vu, vu, vu] [(.int w0), (.int 0), (.ref vq)])) rfl rfl (hb hby d38_56)
 have f106 : Ax Z h105 vq .int [(.int w0)] := A105
 refine dS st105 ?_
 show Aq T105 57 #[vr a1, vi 1, vr a3, vj 1, vz, vj ((w0).toInt64 &&& (4294967295 : Int64)), vz, vi w0, vi 0, vu, vu, vu, vu, vu, vu] []
 refine aN X105 hx hby d38_57 rfl rfl ?_
 refine iL X105 hx hby d38_58 rfl ?_
 refine iY X105 hx hby d38_60 (pc' := 67) ((if0 _ _).trans (feq hw0).2) (H := ?_)
 refine iC X105 hx hby d38_67 (z := 1) rfl ?_
 obtain ⟨T107, h107, X107, e107, W107, st107⟩ := putF X105 hx hZ hown (host := "") (Or.inl (tw112 hw)) Via.refl e105 (F_a3_intLen.other W105 (Or.inl ne_a3_vq)) (E_a3.wr W105) (Or.inl (tw113 hw)) (tw101 hw) (ty := .int) (by decide) rfl rfl (g := (mkF m 68 #[vr a1, vi 1, vr a3, vj 1, vz, vj ((w0).toInt64 &&& (4294967295 : Int64)), vz, vi w0, vi 0, vu, vu, vu, vu, vu, vu] [(.int 1), (.ref a3)])) rfl rfl (hb hby d38_68)
 have f108 := (F_a1_value.other W105 (Or.inl ne_vq_a1.symm)).other W107 (Or.inl ne_a3_a1.symm)
 have f109 := (F_a1_intLen.other W105 (Or.inl ne_vq_a1.symm)).other W107 (Or.inl ne_a3_a1.symm)
 have f110 := (F_a1_offset.other W105 (Or.inl ne_vq_a1.symm)).other W107 (Or.inl ne_a3_a1.symm)
 have f111 := (F_a3_value.other W105 (Or.inl ne_a3_vq)).other W107 (Or.inr (sq4 hw))
 have f112 := (F_a3_intLen.other W105 (Or.inl ne_a3_vq)).same W107
 have f113 := (F_a3_offset.other W105 (Or.inl ne_a3_vq)).other W107 (Or.inr (sq5 hw))
 refine dS st107 ?_
 show Aq T107 71 #[vr a1, vi 1, vr a3, vj 1, vz, vj ((w0).toInt64 &&& (4294967295 : Int64)), vz, vi w0, vi 0, vu, vu, vu, vu, vu, vu] []
 refine aN X107 hx hby d38_71 rfl rfl ?_
 refine iC X107 hx hby d38_72 (z := 0) rfl ?_
 obtain ⟨T114, h114, X114, e114, W114, st114⟩ := putF X107 hx hZ hown (host := "") (Or.inl (tw108 hw)) Via.refl e107 f113 ((E_a3.wr W105).wr W107) (Or.inl (tw109 hw)) (tw101 hw) (ty := .int) (by decide) rfl rfl (g := (mkF m 73 #[vr a1, vi 1, vr a3, vj 1, vz, vj ((w0).toInt64 &&& (4294967295 : Int64)), vz, vi w0, vi 0, vu, vu, vu, vu, vu, vu] [(.int 0), (.ref a3)])) rfl rfl (hb hby d38_73)
 have f115 := ((A_va.other W105 ne_vq_va.symm).other W107 ne_a3_va.symm).other W114 ne_a3_va.symm
 have f116 := f111.other W114 (Or.inr (sq0 hw))
 have f117 := f112.other W114 (Or.inr (sq1 hw))
 have f118 := f113.same W114
 have K114 := (((kr h0 [a3, vq]).wr W105 (Or.inl me1)).wr W107 (Or.inl me0)).wr W114 (Or.inl me0)
 refine dS st114 ?_
 show Aq T114 76 #[vr a1, vi 1, vr a3, vj 1, vz, vj ((w0).toInt64 &&& (4294967295 : Int64)), vz, vi w0, vi 0, vu, vu, vu, vu, vu, vu] []
 refine iL X114 hx hby d38_76 rfl ?_
 exact Done.int X114 hx hlk hret (hb hby d38_78) (by decide) (by decide) ⟨rfl, (Fr.snoc X114 (Fr.snoc X107 (Fr.snoc X105 N0 g_vq) g_a3) g_a3), (by rw [e114]; exact ⟨K114, (((E_a3.wr W105).wr W107).wr W114), f116, f117, f118, ((f106.other W107 ne_a3_vq.symm).other W114 ne_a3_vq.symm)⟩)⟩
theorem d38_79 : dq cd25 79 (.aload_n 2) 1 := by decide +kernel
theorem d38_80 : dq cd25 80 (.getfield 17) 3 := by decide +kernel
theorem d38_83 : dq cd25 83 .arraylength 1 := by decide +kernel
theorem d38_84 : dq cd25 84 (.aload_n 0) 1 := by decide +kernel
theorem d38_85 : dq cd25 85 (.getfield 21) 3 := by decide +kernel
theorem d38_88 : dq cd25 88 (.if_icmp .ge 13) 3 := by decide +kernel
theorem d38_91 : dq cd25 91 (.aload_n 2) 1 := by decide +kernel
theorem d38_92 : dq cd25 92 (.aload_n 0) 1 := by decide +kernel
theorem d38_93 : dq cd25 93 (.getfield 21) 3 := by decide +kernel
theorem d38_96 : dq cd25 96 (.newarray .int) 2 := by decide +kernel
theorem d38_98 : dq cd25 98 (.putfield 17) 3 := by decide +kernel
theorem d38_101 : dq cd25 101 (.aload_n 2) 1 := by decide +kernel
theorem d38_102 : dq cd25 102 (.iconst 0) 1 := by decide +kernel
theorem d38_103 : dq cd25 103 (.putfield 11) 3 := by decide +kernel
theorem d38_106 : dq cd25 106 (.aload_n 2) 1 := by decide +kernel
theorem d38_107 : dq cd25 107 (.aload_n 0) 1 := by decide +kernel
theorem d38_108 : dq cd25 108 (.getfield 21) 3 := by decide +kernel
theorem d38_111 : dq cd25 111 (.putfield 21) 3 := by decide +kernel
theorem d38_114 : dq cd25 114 (.iload_n 1) 1 := by decide +kernel
theorem d38_115 : dq cd25 115 (.invokestatic 152) 3 := by decide +kernel
theorem d38_118 : dq cd25 118 (.istore 5) 2 := by decide +kernel
theorem d38_120 : dq cd25 120 (.aload_n 0) 1 := by decide +kernel
theorem d38_121 : dq cd25 121 (.getfield 17) 3 := by decide +kernel
theorem d38_124 : dq cd25 124 (.aload_n 0) 1 := by decide +kernel
theorem d38_125 : dq cd25 125 (.getfield 11) 3 := by decide +kernel
theorem d38_128 : dq cd25 128 .iaload 1 := by decide +kernel
theorem d38_129 : dq cd25 129 (.istore 6) 2 := by decide +kernel
theorem d38_131 : dq cd25 131 (.iload 6) 2 := by decide +kernel
theorem d38_133 : dq cd25 133 .i2l 1 := by decide +kernel
theorem d38_134 : dq cd25 134 (.ldc2_w 52) 3 := by decide +kernel
theorem d38_137 : dq cd25 137 .land 1 := by decide +kernel
theorem d38_138 : dq cd25 138 (.lstore 7) 2 := by decide +kernel
theorem d38_140 : dq cd25 140 (.lload 7) 2 := by decide +kernel
theorem d38_142 : dq cd25 142 (.lload_n 3) 1 := by decide +kernel
theorem d38_143 : dq cd25 143 .lcmp 1 := by decide +kernel
theorem d38_144 : dq cd25 144 (.ifCond .ge 13) 3 := by decide +kernel
theorem d38_157 : dq cd25 157 (.aload_n 2) 1 := by decide +kernel
theorem d38_158 : dq cd25 158 (.getfield 17) 3 := by decide +kernel
theorem d38_161 : dq cd25 161 (.iconst 0) 1 := by decide +kernel
theorem d38_162 : dq cd25 162 (.lload 7) 2 := by decide +kernel
theorem d38_164 : dq cd25 164 (.lload_n 3) 1 := by decide +kernel
theorem d38_165 : dq cd25 165 .ldiv 1 := by decide +kernel
theorem d38_166 : dq cd25 166 .l2i 1 := by decide +kernel
theorem d38_167 : dq cd25 167 .iastore 1 := by decide +kernel
theorem d38_168 : dq cd25 168 (.lload 7) 2 := by decide +kernel
theorem d38_170 : dq cd25 170 (.aload_n 2) 1 := by decide +kernel
theorem d38_171 : dq cd25 171 (.getfield 17) 3 := by decide +kernel
theorem d38_174 : dq cd25 174 (.iconst 0) 1 := by decide +kernel
theorem d38_175 : dq cd25 175 .iaload 1 := by decide +kernel
theorem d38_176 : dq cd25 176 .i2l 1 := by decide +kernel
theorem d38_177 : dq cd25 177 (.lload_n 3) 1 := by decide +kernel
theorem d38_178 : dq cd25 178 .lmul 1 := by decide +kernel
theorem d38_179 : dq cd25 179 .lsub 1 := by decide +kernel
theorem d38_180 : dq cd25 180 .l2i 1 := by decide +kernel
theorem d38_181 : dq cd25 181 (.istore 6) 2 := by decide +kernel
theorem d38_183 : dq cd25 183 (.iload 6) 2 := by decide +kernel
theorem d38_185 : dq cd25 185 .i2l 1 := by decide +kernel
theorem d38_186 : dq cd25 186 (.ldc2_w 52) 3 := by decide +kernel
theorem d38_189 : dq cd25 189 .land 1 := by decide +kernel
theorem d38_190 : dq cd25 190 (.lstore 7) 2 := by decide +kernel
theorem d38_192 : dq cd25 192 (.aload_n 0) 1 := by decide +kernel
theorem d38_193 : dq cd25 193 (.getfield 21) 3 := by decide +kernel
theorem d38_196 : dq cd25 196 (.istore 9) 2 := by decide +kernel
theorem d38_198 : dq cd25 198 (.iinc 9 (-1)) 3 := by decide +kernel
theorem d38_201 : dq cd25 201 (.iload 9) 2 := by decide +kernel
theorem d38_203 : dq cd25 203 (.ifCond .le 112) 3 := by decide +kernel
theorem d38_206 : dq cd25 206 (.lload 7) 2 := by decide +kernel
theorem d38_208 : dq cd25 208 (.bipush 32) 2 := by decide +kernel
theorem d38_210 : dq cd25 210 .lshl 1 := by decide +kernel
theorem d38_211 : dq cd25 211 (.aload_n 0) 1 := by decide +kernel
theorem d38_212 : dq cd25 212 (.getfield 17) 3 := by decide +kernel
theorem d38_215 : dq cd25 215 (.aload_n 0) 1 := by decide +kernel
theorem d38_216 : dq cd25 216 (.getfield 11) 3 := by decide +kernel
theorem d38_219 : dq cd25 219 (.aload_n 0) 1 := by decide +kernel
theorem d38_220 : dq cd25 220 (.getfield 21) 3 := by decide +kernel
theorem d38_223 : dq cd25 223 .iadd 1 := by decide +kernel
theorem d38_224 : dq cd25 224 (.iload 9) 2 := by decide +kernel
theorem d38_226 : dq cd25 226 .isub 1 := by decide +kernel
theorem d38_227 : dq cd25 227 .iaload 1 := by decide +kernel
theorem d38_228 : dq cd25 228 .i2l 1 := by decide +kernel
theorem d38_229 : dq cd25 229 (.ldc2_w 52) 3 := by decide +kernel
theorem d38_232 : dq cd25 232 .land 1 := by decide +kernel
theorem d38_233 : dq cd25 233 .lor 1 := by decide +kernel
theorem d38_234 : dq cd25 234 (.lstore 10) 2 := by decide +kernel
theorem d38_236 : dq cd25 236 (.lload 10) 2 := by decide +kernel
theorem d38_238 : dq cd25 238 (.lconst 0) 1 := by decide +kernel
theorem d38_239 : dq cd25 239 .lcmp 1 := by decide +kernel
theorem d38_240 : dq cd25 240 (.ifCond .lt 24) 3 := by decide +kernel
theorem d38_243 : dq cd25 243 (.lload 10) 2 := by decide +kernel
theorem d38_245 : dq cd25 245 (.lload_n 3) 1 := by decide +kernel
theorem d38_246 : dq cd25 246 .ldiv 1 := by decide +kernel
theorem d38_247 : dq cd25 247 .l2i 1 := by decide +kernel
theorem d38_248 : dq cd25 248 (.istore 12) 2 := by decide +kernel
theorem d38_250 : dq cd25 250 (.lload 10) 2 := by decide +kernel
theorem d38_252 : dq cd25 252 (.iload 12) 2 := by decide +kernel
theorem d38_254 : dq cd25 254 .i2l 1 := by decide +kernel
theorem d38_255 : dq cd25 255 (.lload_n 3) 1 := by decide +kernel
theorem d38_256 : dq cd25 256 .lmul 1 := by decide +kernel
theorem d38_257 : dq cd25 257 .lsub 1 := by decide +kernel
theorem d38_258 : dq cd25 258 .l2i 1 := by decide +kernel
theorem d38_259 : dq cd25 259 (.istore 6) 2 := by decide +kernel
theorem d38_261 : dq cd25 261 (.goto 28) 3 := by decide +kernel
theorem d38_289 : dq cd25 289 (.aload_n 2) 1 := by decide +kernel
theorem d38_290 : dq cd25 290 (.getfield 17) 3 := by decide +kernel
theorem d38_293 : dq cd25 293 (.aload_n 0) 1 := by decide +kernel
theorem d38_294 : dq cd25 294 (.getfield 21) 3 := by decide +kernel
theorem d38_297 : dq cd25 297 (.iload 9) 2 := by decide +kernel
theorem d38_299 : dq cd25 299 .isub 1 := by decide +kernel
theorem d38_300 : dq cd25 300 (.iload 12) 2 := by decide +kernel
theorem d38_302 : dq cd25 302 .iastore 1 := by decide +kernel
theorem d38_303 : dq cd25 303 (.iload 6) 2 := by decide +kernel
theorem d38_305 : dq cd25 305 .i2l 1 := by decide +kernel
theorem d38_306 : dq cd25 306 (.ldc2_w 52) 3 := by decide +kernel
theorem d38_309 : dq cd25 309 .land 1 := by decide +kernel
theorem d38_310 : dq cd25 310 (.lstore 7) 2 := by decide +kernel
theorem d38_312 : dq cd25 312 (.goto (-114)) 3 := by decide +kernel
theorem d38_315 : dq cd25 315 (.aload_n 2) 1 := by decide +kernel
theorem d38_316 : dq cd25 316 (.invokevirtual 64) 3 := by decide +kernel
theorem d38_319 : dq cd25 319 (.iload 5) 2 := by decide +kernel
theorem d38_321 : dq cd25 321 (.ifCond .le 8) 3 := by decide +kernel
theorem d38_324 : dq cd25 324 (.iload 6) 2 := by decide +kernel
theorem d38_326 : dq cd25 326 (.iload_n 1) 1 := by decide +kernel
theorem d38_327 : dq cd25 327 .irem 1 := by decide +kernel
theorem d38_328 : dq cd25 328 .ireturn 1 := by decide +kernel
theorem dow2 (l : Launch) (Z : State) (a0 : Array Value) (hw : HH a0 Z) (ws : List Jvm.Cond) (a1 : Addr) (p2 : Int32) (a3 va : Addr) (w0 w1 : Int32) (vq : Addr) (h0 : Heap) (n0 : Nat) (Z0 : n0 ≤ h0.size) (hl_p2 : p2 = (1 : Int32)) (E_a1 : Fl3 Z h0 a1) (F_a1_value : Fl0 Z h0 a1 (.ref va)) (F_a1_intLen : Fl1 Z h0 a1 (.int 2)) (F_a1_offset : Fl2 Z h0 a1 (.int 0)) (A_va : Ax Z h0 va .int [(.int w0), (.int w1)]) (E_a3 : Fl3 Z h0 a3) (F_a3_value : Fl0 Z h0 a3 (.ref vq)) (F_a3_intLen : Fl1 Z h0 a3 (.int 0)) (F_a3_offset : Fl2 Z h0 a3 (.int 0)) (A_vq : Ax Z h0 vq .int [(.int 0)]) (g_a3 : n0 ≤ a3) (g_vq : n0 ≤ vq) (ne_a3_vq : a3 ≠ vq) (ne_a3_a1 : a3 ≠ a1) (ne_a3_va : a3 ≠ va) (ne_vq_a1 : vq ≠ a1) (ne_vq_va : vq ≠ va) (hw0 : ¬ w0 = (0 : Int32)) : MF l "java/math/MutableBigInteger" "divideOneWord" "(ILjava/math/MutableBigInteger;)I" jdk_2101_method_53_code 15 (some .int) ws ⟨1, 1, 2, 15⟩ Z h0 #[(.ref a1), (.int p2), (.ref a3)] (fun v h L => ∃ (bv : Addr), v = some (.int 0) ∧ Fr n0 L ∧ Keep h0 h [a3, vq] ∧ Fl3 Z h a3 ∧ Fl0 Z h a3 (.ref bv) ∧ Fl1 Z h a3 (.int 2) ∧ Fl2 Z h a3 (.int 0) ∧ Ax Z h bv .int [(.int w0), (.int w1)] ∧ Fl4 Z h bv ∧ h0.size ≤ bv) := by
 refine own_body (n0 := n0) (plainFor_of_name pn_27) (fun m => ef_38 m a1 p2 a3) ?_
 intro p e s m below meth c s₁ hZ hx hby hml hown hlk hret hnm X0 e0 N0
 subst hl_p2
 show Aq s₁ 0 #[vr a1, vi 1, vr a3, vu, vu, vu, vu, vu, vu, vu, vu, vu, vu, vu, vu] []
 refine iN X0 hx hby d38_0 rfl ?_
 refine dS (fun t k => XS.i2l X0.here hx rfl (hb hby d38_1) rfl k) ?_
 show Aq s₁ 2 #[vr a1, vi 1, vr a3, vu, vu, vu, vu, vu, vu, vu, vu, vu, vu, vu, vu] [(.long ((1 : Int32)).toInt64)]
 refine dS (X0.ldc2Long hx hown (mvT hZ (tw238 hw)) (g := (mkF m 2 #[vr a1, vi 1, vr a3, vu, vu, vu, vu, vu, vu, vu, vu, vu, vu, vu, vu] [(.long ((1 : Int32)).toInt64)])) rfl (hb hby d38_2)) ?_
 show Aq s₁ 5 #[vr a1, vi 1, vr a3, vu, vu, vu, vu, vu, vu, vu, vu, vu, vu, vu, vu] [(.long 4294967295), (.long ((1 : Int32)).toInt64)]
 refine dS (fun t k => XS.land X0.here hx rfl (hb hby d38_5) rfl k) ?_
 show Aq s₁ 6 #[vr a1, vi 1, vr a3, vu, vu, vu, vu, vu, vu, vu, vu, vu, vu, vu, vu] [(.long (((1 : Int32)).toInt64 &&& (4294967295 : Int64)))]
 rw [show (((1 : Int32)).toInt64 &&& (4294967295 : Int64)) = (1 : Int64) from (by decide)]
 show Aq s₁ 6 #[vr a1, vi 1, vr a3, vu, vu, vu, vu, vu, vu, vu, vu, vu, vu, vu, vu] [(.long 1)]
 refine dS (fun t k => XS.lstoreN X0.here hx rfl (hb hby d38_6) rfl (l' := #[vr a1, vi 1, vr a3, vj 1, vz, vu, vu, vu, vu, vu, vu, vu, vu, vu, vu]) rfl k) ?_
 show Aq s₁ 7 #[vr a1, vi 1, vr a3, vj 1, vz, vu, vu, vu, vu, vu, vu, vu, vu, vu, vu] []
 refine aN X0 hx hby d38_7 rfl rfl ?_
 obtain ⟨T101, X101, e101, st101⟩ := gF X0 hx hZ hown (tw112 hw) e0 F_a1_intLen (g := (mkF m 8 #[vr a1, vi 1, vr a3, vj 1, vz, vu, vu, vu, vu, vu, vu, vu, vu, vu, vu] [(.ref a1)])) rfl rfl (hb hby d38_8)
 refine dS st101 ?_
 show Aq T101 11 #[vr a1, vi 1, vr a3, vj 1, vz, vu, vu, vu, vu, vu, vu, vu, vu, vu, vu] [(.int 2)]
 refine iC X101 hx hby d38_11 (z := 1) rfl ?_
 refine cY X101 hx hby d38_12 (pc' := 79) (feq (by decide)).2 (H := ?_)
 refine aN X101 hx hby d38_79 rfl rfl ?_
 obtain ⟨T102, X102, e102, st102⟩ := gF X101 hx hZ hown (tw127 hw) e101 F_a3_value (g := (mkF m 80 #[vr a1, vi 1, vr a3, vj 1, vz, vu, vu, vu, vu, vu, vu, vu, vu, vu, vu] [(.ref a3)])) rfl rfl (hb hby d38_80)
 refine dS st102 ?_
 show Aq T102 83 #[vr a1, vi 1, vr a3, vj 1, vz, vu, vu, vu, vu, vu, vu, vu, vu, vu, vu] [(.ref vq)]
 refine dS (lenA X102 hx hZ e102 A_vq (n := (1 : Int32)) rfl (g := (mkF m 83 #[vr a1, vi 1, vr a3, vj 1, vz, vu, vu, vu, vu, vu, vu, vu, vu, vu, vu] [(.ref vq)])) rfl rfl (hb hby d38_83)) ?_
 show Aq T102 84 #[vr a1, vi 1, vr a3, vj 1, vz, vu, vu, vu, vu, vu, vu, vu, vu, vu, vu] [(.int 1)]
 refine aN X102 hx hby d38_84 rfl rfl ?_
 obtain ⟨T103, X103, e103, st103⟩ := gF X102 hx hZ hown (tw112 hw) e102 F_a1_intLen (g := (mkF m 85 #[vr a1, vi 1, vr a3, vj 1, vz, vu, vu, vu, vu, vu, vu, vu, vu, vu, vu] [(.ref a1), (.int 1)])) rfl rfl (hb hby d38_85)
 refine dS st103 ?_
 show Aq T103 88 #[vr a1, vi 1, vr a3, vj 1, vz, vu, vu, vu, vu, vu, vu, vu, vu, vu, vu] [(.int 2), (.int 1)]
 refine cF X103 hx hby d38_88 (tlt (by decide)).2.1 ?_
 refine aN X103 hx hby d38_91 rfl rfl ?_
 refine aN X103 hx hby d38_92 rfl rfl ?_
 obtain ⟨T104, X104, e104, st104⟩ := gF X103 hx hZ hown (tw112 hw) e103 F_a1_intLen (g := (mkF m 93 #[vr a1, vi 1, vr a3, vj 1, vz, vu, vu, vu, vu, vu, vu, vu, vu, vu, vu] [(.ref a1), (.ref a3)])) rfl rfl (hb hby d38_93)
 refine dS st104 ?_
 show Aq T104 96 #[vr a1, vi 1, vr a3, vj 1, vz, vu, vu, vu, vu, vu, vu, vu, vu, vu, vu] [(.int 2), (.ref a3)]
 obtain ⟨T105, h105, k105, X105, e105, E105, A105, B105, st105⟩ := newPE X104 hx hZ (hw _ (List.mem_of_getElem? (i := 0) rfl)) e104 (g := (mkF m 96 #[vr a1, vi 1, vr a3, vj 1, vz, vu, vu, vu, vu, vu, vu, vu, vu, vu, vu] [(.int 2), (.ref a3)])) rfl (hb hby d38_96) rfl (by decide) (cap := 2) (by decide) (by decide) (by decide) (by decide) (ad := "[I") (by decide)
 obtain ⟨b105, gq105⟩ : ∃ z, z = h0.size := ⟨_, rfl⟩
 rw [← gq105] at A105 B105 st105
 have sz_b105 := lb (kr h0 [a3, vq]).1 gq105
 have f106 : Ax Z h105 b105 .int [(.int 0), (.int 0)] := Ax.new (ty := .int) (i := 2) A105 (by decide)
 refine dS st105 ?_
 show Aq T105 98 #[vr a1, vi 1, vr a3, vj 1, vz, vu, vu, vu, vu, vu, vu, vu, vu, vu, vu] [(.ref b105), (.ref a3)]
 obtain ⟨T107, h107, X107, e107, W107, st107⟩ := putF X105 hx hZ hown (host := "") (Or.inl (tw127 hw)) Via.refl e105 (F_a3_value.ext E105) (E_a3.ext E105) (Or.inl (tw128 hw)) (tw101 hw) (ty := (.array .int)) (by decide) rfl rfl (g := (mkF m 98 #[vr a1, vi 1, vr a3, vj 1, vz, vu, vu, vu, vu, vu, vu, vu, vu, vu, vu] [(.ref b105), (.ref a3)])) rfl rfl (hb hby d38_98)
 have f108 := (F_a3_value.ext E105).same W107
 have f109 := (F_a3_intLen.ext E105).other W107 (Or.inr (sq2 hw))
 have f110 := (F_a3_offset.ext E105).other W107 (Or.inr (sq3 hw))
 have ne111 := nl E_a3.lt gq105
 refine dS st107 ?_
 show Aq T107 101 #[vr a1, vi 1, vr a3, vj 1, vz, vu, vu, vu, vu, vu, vu, vu, vu, vu, vu] []
 refine aN X107 hx hby d38_101 rfl rfl ?_
 refine iC X107 hx hby d38_102 (z := 0) rfl ?_
 obtain ⟨T112, h112, X112, e112, W112, st112⟩ := putF X107 hx hZ hown (host := "") (Or.inl (tw108 hw)) Via.refl e107 f110 ((E_a3.ext E105).wr W107) (Or.inl (tw109 hw)) (tw101 hw) (ty := .int) (by decide) rfl rfl (g := (mkF m 103 #[vr a1, vi 1, vr a3, vj 1, vz, vu, vu, vu, vu, vu, vu, vu, vu, vu, vu] [(.int 0), (.ref a3)])) rfl rfl (hb hby d38_103)
 have f113 := ((F_a1_value.ext E105).other W107 (Or.inl ne_a3_a1.symm)).other W112 (Or.inl ne_a3_a1.symm)
 have f114 := ((F_a1_intLen.ext E105).other W107 (Or.inl ne_a3_a1.symm)).other W112 (Or.inl ne_a3_a1.symm)
 have f115 := ((F_a1_offset.ext E105).other W107 (Or.inl ne_a3_a1.symm)).other W112 (Or.inl ne_a3_a1.symm)
 have f116 := f108.other W112 (Or.inr (sq0 hw))
 have f117 := f109.other W112 (Or.inr (sq1 hw))
 have f118 := f110.same W112
 have K112 := (((kr h0 [a3, vq]).ext E105).wr W107 (Or.inl me0)).wr W112 (Or.inl me0)
 refine dS st112 ?_
 show Aq T112 106 #[vr a1, vi 1, vr a3, vj 1, vz, vu, vu, vu, vu, vu, vu, vu, vu, vu, vu] []
 refine aN X112 hx hby d38_106 rfl rfl ?_
 refine aN X112 hx hby d38_107 rfl rfl ?_
 obtain ⟨T119, X119, e119, st119⟩ := gF X112 hx hZ hown (tw112 hw) e112 f114 (g := (mkF m 108 #[vr a1, vi 1, vr a3, vj 1, vz, vu, vu, vu, vu, vu, vu, vu, vu, vu, vu] [(.ref a1), (.ref a3)])) rfl rfl (hb hby d38_108)
 refine dS st119 ?_
 show Aq T119 111 #[vr a1, vi 1, vr a3, vj 1, vz, vu, vu, vu, vu, vu, vu, vu, vu, vu, vu] [(.int 2), (.ref a3)]
 obtain ⟨T120, h120, X120, e120, W120, st120⟩ := putF X119 hx hZ hown (host := "") (Or.inl (tw112 hw)) Via.refl e119 f117 (((E_a3.ext E105).wr W107).wr W112) (Or.inl (tw113 hw)) (tw101 hw) (ty := .int) (by decide) rfl rfl (g := (mkF m 111 #[vr a1, vi 1, vr a3, vj 1, vz, vu, vu, vu, vu, vu, vu, vu, vu, vu, vu] [(.int 2), (.ref a3)])) rfl rfl (hb hby d38_111)
 have f121 := (((A_va.ext E105).other W107 ne_a3_va.symm).other W112 ne_a3_va.symm).other W120 ne_a3_va.symm
 have f122 := f116.other W120 (Or.inr (sq4 hw))
 have f123 := f117.same W120
 have f124 := f118.other W120 (Or.inr (sq5 hw))
 have f125 := (((A_vq.ext E105).other W107 ne_a3_vq.symm).other W112 ne_a3_vq.symm).other W120 ne_a3_vq.symm
 have f126 := ((f106.other W107 ne111.symm).other W112 ne111.symm).other W120 ne111.symm
 refine dS st120 ?_
 show Aq T120 114 #[vr a1, vi 1, vr a3, vj 1, vz, vu, vu, vu, vu, vu, vu, vu, vu, vu, vu] []
 refine iN X120 hx hby d38_114 rfl ?_
 obtain ⟨v127, T127, L127, X127, hQ127, st127⟩ := cS X120 hx hZ hown (tw282 hw) (tw166 hw) (tw154 hw) (tw167 hw) (rm25 l Z a0 hw [] (1 : Int32) h120 n0 (lw (lw (lw (lq Z0 E105.1) W107) W112) W120) ) (W := 0) e120 (g := (mkF m 115 #[vr a1, vi 1, vr a3, vj 1, vz, vu, vu, vu, vu, vu, vu, vu, vu, vu, vu] [(.int 1)])) rfl hml rfl (argsL := [(.int 1)]) (rest := []) (lenOf pd_0 rfl) rfl rfl rfl (hb hby d38_115) rfl
 refine dS st127 ?_
 obtain ⟨rfl, N127q, e127⟩ := hQ127
 have N127 := Fr.app (Fr.snoc X120 (Fr.snoc X112 (Fr.snoc X107 N0 g_a3) g_a3) g_a3) N127q
 show Aq T127 118 #[vr a1, vi 1, vr a3, vj 1, vz, vu, vu, vu, vu, vu, vu, vu, vu, vu, vu] [(.int (F25 (1 : Int32)))]
 rw [show (F25 (1 : Int32)) = (31 : Int32) from (by decide)]
 show Aq T127 118 #[vr a1, vi 1, vr a3, vj 1, vz, vu, vu, vu, vu, vu, vu, vu, vu, vu, vu] [(.int 31)]
 refine sL X127 hx hby d38_118 (l' := #[vr a1, vi 1, vr a3, vj 1, vz, vi 31, vu, vu, vu, vu, vu, vu, vu, vu, vu]) rfl ?_
 refine aN X127 hx hby d38_120 rfl rfl ?_
 obtain ⟨T128, X128, e128, st128⟩ := gF X127 hx hZ hown (tw127 hw) e127 (f113.other W120 (Or.inl ne_a3_a1.symm)) (g := (mkF m 121 #[vr a1, vi 1, vr a3, vj 1, vz, vi 31, vu, vu, vu, vu, vu, vu, vu, vu, vu] [(.ref a1)])) rfl rfl (hb hby d38_121)
 refine dS st128 ?_
 show Aq T128 124 #[vr a1, vi 1, vr a3, vj 1, vz, vi 31, vu, vu, vu, vu, vu, vu, vu, vu, vu] [(.ref va)]
 refine aN X128 hx hby d38_124 rfl rfl ?_
 obtain ⟨T129, X129, e129, st129⟩ := gF X128 hx hZ hown (tw108 hw) e128 (f115.other W120 (Or.inl ne_a3_a1.symm)) (g := (mkF m 125 #[vr a1, vi 1, vr a3, vj 1, vz, vi 31, vu, vu, vu, vu, vu, vu, vu, vu, vu] [(.ref a1), (.ref va)])) rfl rfl (hb hby d38_125)
 refine dS st129 ?_
 show Aq T129 128 #[vr a1, vi 1, vr a3, vj 1, vz, vi 31, vu, vu, vu, vu, vu, vu, vu, vu, vu] [(.int 0), (.ref va)]
 refine dS (ldI X129 hx hZ e129 f121 (j := (0 : Int32)) (x := (.int w0)) (by decide) rfl (g := (mkF m 128 #[vr a1, vi 1, vr a3, vj 1, vz, vi 31, vu, vu, vu, vu, vu, vu, vu, vu, vu] [(.int 0), (.ref va)])) rfl rfl (hb hby d38_128)) ?_
 show Aq T129 129 #[vr a1, vi 1, vr a3, vj 1, vz, vi 31, vu, vu, vu, vu, vu, vu, vu, vu, vu] [(.int w0)]
 refine sL X129 hx hby d38_129 (l' := #[vr a1, vi 1, vr a3, vj 1, vz, vi 31, vi w0, vu, vu, vu, vu, vu, vu, vu, vu]) rfl ?_
 refine iL X129 hx hby d38_131 rfl ?_
 refine dS (fun t k => XS.i2l X129.here hx rfl (hb hby d38_133) rfl k) ?_
 show Aq T129 134 #[vr a1, vi 1, vr a3, vj 1, vz, vi 31, vi w0, vu, vu, vu, vu, vu, vu, vu, vu] [(.long (w0).toInt64)]
 refine dS (X129.ldc2Long hx hown (mvT hZ (tw238 hw)) (g := (mkF m 134 #[vr a1, vi 1, vr a3, vj 1, vz, vi 31, vi w0, vu, vu, vu, vu, vu, vu, vu, vu] [(.long (w0).toInt64)])) rfl (hb hby d38_134)) ?_
 show Aq T129 137 #[vr a1, vi 1, vr a3, vj 1, vz, vi 31, vi w0, vu, vu, vu, vu, vu, vu, vu, vu] [(.long 4294967295), (.long (w0).toInt64)]
 refine dS (fun t k => XS.land X129.here hx rfl (hb hby d38_137) rfl k) ?_
 show Aq T129 138 #[vr a1, vi 1, vr a3, vj 1, vz, vi 31, vi w0, vu, vu, vu, vu, vu, vu, vu, vu] [(.long ((w0).toInt64 &&& (4294967295 : Int64)))]
 refine dS (fun t k => XS.lstore X129.here hx rfl (hb hby d38_138) rfl (l' := #[vr a1, vi 1, vr a3, vj 1, vz, vi 31, vi w0, vj ((w0).toInt64 &&& (4294967295 : Int64)), vz, vu, vu, vu, vu, vu, vu]) rfl k) ?_
 show Aq T129 140 #[vr a1, vi 1, vr a3, vj 1, vz, vi 31, vi w0, vj ((w0).toInt64 &&& (4294967295 : Int64)), vz, vu, vu, vu, vu, vu, vu] []
 refine jL X129 hx hby d38_140 rfl ?_
 refine jN X129 hx hby d38_142 rfl ?_
 refine dS (fun t k => XS.lcmp X129.here hx rfl (hb hby d38_143) rfl k) ?_
 show Aq T129 144 #[vr a1, vi 1, vr a3, vj 1, vz, vi 31, vi w0, vj ((w0).toInt64 &&& (4294967295 : Int64)), vz, vu, vu, vu, vu, vu, vu] [(.int (lcmpW ((w0).toInt64 &&& (4294967295 : Int64)) (1 : Int64)))]
 refine iY X129 hx hby d38_144 (pc' := 157) ((if0 _ _).trans (flt (fun q_ => (own_m64ge hw0) ((lw_lt _ _).mp q_))).2.1) (H := ?_)
 refine aN X129 hx hby d38_157 rfl rfl ?_
 obtain ⟨T130, X130, e130, st130⟩ := gF X129 hx hZ hown (tw127 hw) e129 f122 (g := (mkF m 158 #[vr a1, vi 1, vr a3, vj 1, vz, vi 31, vi w0, vj ((w0).toInt64 &&& (4294967295 : Int64)), vz, vu, vu, vu, vu, vu, vu] [(.ref a3)])) rfl rfl (hb hby d38_158)
 refine dS st130 ?_
 show Aq T130 161 #[vr a1, vi 1, vr a3, vj 1, vz, vi 31, vi w0, vj ((w0).toInt64 &&& (4294967295 : Int64)), vz, vu, vu, vu, vu, vu, vu] [(.ref b105)]
 refine iC X130 hx hby d38_161 (z := 0) rfl ?_
 refine jL X130 hx hby d38_162 rfl ?_
 refine jN X130 hx hby d38_164 rfl ?_
 refine dS (fun t k => XS.ldiv X130.here hx rfl (hb hby d38_165) rfl (by decide) k) ?_
 show Aq T130 166 #[vr a1, vi 1, vr a3, vj 1, vz, vi 31, vi w0, vj ((w0).toInt64 &&& (4294967295 : Int64)), vz, vu, vu, vu, vu, vu, vu] [(.long (((w0).toInt64 &&& (4294967295 : Int64)) / (1 : Int64))), (.int 0), (.ref b105)]
 refine dS (fun t k => XS.l2i X130.here hx rfl (hb hby d38_166) rfl k) ?_
 show Aq T130 167 #[vr a1, vi 1, vr a3, vj 1, vz, vi 31, vi w0, vj ((w0).toInt64 &&& (4294967295 : Int64)), vz, vu, vu, vu, vu, vu, vu] [(.int ((((w0).toInt64 &&& (4294967295 : Int64)) / (1 : Int64))).toInt32), (.int 0), (.ref b105)]
 rw [show ((((w0).toInt64 &&& (4294967295 : Int64)) / (1 : Int64))).toInt32 = w0 from (own_q1 w0)]
 obtain ⟨T131, h131, X131, e131, W131, A131, st131⟩ := stoI X130 hx hZ e130 f126 (j := (0 : Int32)) (by decide) (i := 0) (by decide) (Nat.le_of_ble_eq_true rfl) (g := (mkF m 167 #[vr a1, vi 1, vr a3, vj 1, vz, vi 31, vi w0, vj ((w0).toInt64 &&& (4294967295 : Int64)), vz, vu, vu, vu, vu, vu, vu] [(.int w0), (.int 0), (.ref b105)])) rfl rfl (hb hby d38_167)
 have ne132 := nl E_a1.lt gq105
 have ne133 := nl A_va.lt gq105
 have ne134 := nl A_vq.lt gq105
 have f135 : Ax Z h131 b105 .int [(.int w0), (.int 0)] := A131
 refine dS st131 ?_
 show Aq T131 168 #[vr a1, vi 1, vr a3, vj 1, vz, vi 31, vi w0, vj ((w0).toInt64 &&& (4294967295 : Int64)), vz, vu, vu, vu, vu, vu, vu] []
 refine jL X131 hx hby d38_168 rfl ?_
 refine aN X131 hx hby d38_170 rfl rfl ?_
 obtain ⟨T136, X136, e136, st136⟩ := gF X131 hx hZ hown (tw127 hw) e131 (f122.other W131 (Or.inl ne111)) (g := (mkF m 171 #[vr a1, vi 1, vr a3, vj 1, vz, vi 31, vi w0, vj ((w0).toInt64 &&& (4294967295 : Int64)), vz, vu, vu, vu, vu, vu, vu] [(.ref a3), (.long ((w0).toInt64 &&& (4294967295 : Int64)))])) rfl rfl (hb hby d38_171)
 refine dS st136 ?_
 show Aq T136 174 #[vr a1, vi 1, vr a3, vj 1, vz, vi 31, vi w0, vj ((w0).toInt64 &&& (4294967295 : Int64)), vz, vu, vu, vu, vu, vu, vu] [(.ref b105), (.long ((w0).toInt64 &&& (4294967295 : Int64)))]
 refine iC X136 hx hby d38_174 (z := 0) rfl ?_
 refine dS (ldI X136 hx hZ e136 f135 (j := (0 : Int32)) (x := (.int w0)) (by decide) rfl (g := (mkF m 175 #[vr a1, vi 1, vr a3, vj 1, vz, vi 31, vi w0, vj ((w0).toInt64 &&& (4294967295 : Int64)), vz, vu, vu, vu, vu, vu, vu] [(.int 0), (.ref b105), (.long ((w0).toInt64 &&& (4294967295 : Int64)))])) rfl rfl (hb hby d38_175)) ?_
 show Aq T136 176 #[vr a1, vi 1, vr a3, vj 1, vz, vi 31, vi w0, vj ((w0).toInt64 &&& (4294967295 : Int64)), vz, vu, vu, vu, vu, vu, vu] [(.int w0), (.long ((w0).toInt64 &&& (4294967295 : Int64)))]
 refine dS (fun t k => XS.i2l X136.here hx rfl (hb hby d38_176) rfl k) ?_
 show Aq T136 177 #[vr a1, vi 1, vr a3, vj 1, vz, vi 31, vi w0, vj ((w0).toInt64 &&& (4294967295 : Int64)), vz, vu, vu, vu, vu, vu, vu] [(.long (w0).toInt64), (.long ((w0).toInt64 &&& (4294967295 : Int64)))]
 refine jN X136 hx hby d38_177 rfl ?_
 refine dS (fun t k => XS.lmul X136.here hx rfl (hb hby d38_178) rfl k) ?_
 show Aq T136 179 #[vr a1, vi 1, vr a3, vj 1, vz, vi 31, vi w0, vj ((w0).toInt64 &&& (4294967295 : Int64)), vz, vu, vu, vu, vu, vu, vu] [(.long ((w0).toInt64 * (1 : Int64))), (.long ((w0).toInt64 &&& (4294967295 : Int64)))]
 refine dS (fun t k => XS.lsub X136.here hx rfl (hb hby d38_179) rfl k) ?_
 show Aq T136 180 #[vr a1, vi 1, vr a3, vj 1, vz, vi 31, vi w0, vj ((w0).toInt64 &&& (4294967295 : Int64)), vz, vu, vu, vu, vu, vu, vu] [(.long (((w0).toInt64 &&& (4294967295 : Int64)) - ((w0).toInt64 * (1 : Int64))))]
 refine dS (fun t k => XS.l2i X136.here hx rfl (hb hby d38_180) rfl k) ?_
 show Aq T136 181 #[vr a1, vi 1, vr a3, vj 1, vz, vi 31, vi w0, vj ((w0).toInt64 &&& (4294967295 : Int64)), vz, vu, vu, vu, vu, vu, vu] [(.int ((((w0).toInt64 &&& (4294967295 : Int64)) - ((w0).toInt64 * (1 : Int64)))).toInt32)]
 rw [show ((((w0).toInt64 &&& (4294967295 : Int64)) - ((w0).toInt64 * (1 : Int64)))).toInt32 = (0 : Int32) from (own_r1 w0)]
 show Aq T136 181 #[vr a1, vi 1, vr a3, vj 1, vz, vi 31, vi w0, vj ((w0).toInt64 &&& (4294967295 : Int64)), vz, vu, vu, vu, vu, vu, vu] [(.int 0)]
 refine sL X136 hx hby d38_181 (l' := #[vr a1, vi 1, vr a3, vj 1, vz, vi 31, vi 0, vj ((w0).toInt64 &&& (4294967295 : Int64)), vz, vu, vu, vu, vu, vu, vu]) rfl ?_
 refine iL X136 hx hby d38_183 rfl ?_
 refine dS (fun t k => XS.i2l X136.here hx rfl (hb hby d38_185) rfl k) ?_
 show Aq T136 186 #[vr a1, vi 1, vr a3, vj 1, vz, vi 31, vi 0, vj ((w0).toInt64 &&& (4294967295 : Int64)), vz, vu, vu, vu, vu, vu, vu] [(.long ((0 : Int32)).toInt64)]
 refine dS (X136.ldc2Long hx hown (mvT hZ (tw238 hw)) (g := (mkF m 186 #[vr a1, vi 1, vr a3, vj 1, vz, vi 31, vi 0, vj ((w0).toInt64 &&& (4294967295 : Int64)), vz, vu, vu, vu, vu, vu, vu] [(.long ((0 : Int32)).toInt64)])) rfl (hb hby d38_186)) ?_
 show Aq T136 189 #[vr a1, vi 1, vr a3, vj 1, vz, vi 31, vi 0, vj ((w0).toInt64 &&& (4294967295 : Int64)), vz, vu, vu, vu, vu, vu, vu] [(.long 4294967295), (.long ((0 : Int32)).toInt64)]
 refine dS (fun t k => XS.land X136.here hx rfl (hb hby d38_189) rfl k) ?_
 show Aq T136 190 #[vr a1, vi 1, vr a3, vj 1, vz, vi 31, vi 0, vj ((w0).toInt64 &&& (4294967295 : Int64)), vz, vu, vu, vu, vu, vu, vu] [(.long (((0 : Int32)).toInt64 &&& (4294967295 : Int64)))]
 rw [show (((0 : Int32)).toInt64 &&& (4294967295 : Int64)) = (0 : Int64) from (by decide)]
 show Aq T136 190 #[vr a1, vi 1, vr a3, vj 1, vz, vi 31, vi 0, vj ((w0).toInt64 &&& (4294967295 : Int64)), vz, vu, vu, vu, vu, vu, vu] [(.long 0)]
 refine dS (fun t k => XS.lstore X136.here hx rfl (hb hby d38_190) rfl (l' := #[vr a1, vi 1, vr a3, vj 1, vz, vi 31, vi 0, vj 0, vz, vu, vu, vu, vu, vu, vu]) rfl k) ?_
 show Aq T136 192 #[vr a1, vi 1, vr a3, vj 1, vz, vi 31, vi 0, vj 0, vz, vu, vu, vu, vu, vu, vu] []
 refine aN X136 hx hby d38_192 rfl rfl ?_
 obtain ⟨T137, X137, e137, st137⟩ := gF X136 hx hZ hown (tw112 hw) e136 ((f114.other W120 (Or.inl ne_a3_a1.symm)).other W131 (Or.inl ne132)) (g := (mkF m 193 #[vr a1, vi 1, vr a3, vj 1, vz, vi 31, vi 0, vj 0, vz, vu, vu, vu, vu, vu, vu] [(.ref a1)])) rfl rfl (hb hby d38_193)
 refine dS st137 ?_
 show Aq T137 196 #[vr a1, vi 1, vr a3, vj 1, vz, vi 31, vi 0, vj 0, vz, vu, vu, vu, vu, vu, vu] [(.int 2)]
 refine sL X137 hx hby d38_196 (l' := #[vr a1, vi 1, vr a3, vj 1, vz, vi 31, vi 0, vj 0, vz, vi 2, vu, vu, vu, vu, vu]) rfl ?_
 refine dS (fun t k => XS.iinc X137.here hx rfl (hb hby d38_198) rfl (l' := #[vr a1, vi 1, vr a3, vj 1, vz, vi 31, vi 0, vj 0, vz, vi ((2 : Int32) + (-1 : Int32)), vu, vu, vu, vu, vu]) rfl k) ?_
 show Aq T137 201 #[vr a1, vi 1, vr a3, vj 1, vz, vi 31, vi 0, vj 0, vz, vi ((2 : Int32) + (-1 : Int32)), vu, vu, vu, vu, vu] []
 rw [show ((2 : Int32) + (-1 : Int32)) = (1 : Int32) from by decide]
 show Aq T137 201 #[vr a1, vi 1, vr a3, vj 1, vz, vi 31, vi 0, vj 0, vz, vi 1, vu, vu, vu, vu, vu] []
 refine iL X137 hx hby d38_201 rfl ?_
 refine iF X137 hx hby d38_203 ((if0 _ _).trans (tlt (by decide)).2.2.2) ?_
 refine jL X137 hx hby d38_206 rfl ?_
 refine iB X137 hx hby d38_208 (z := 32) rfl ?_
 refine dS (fun t k => XS.lshl X137.here hx rfl (hb hby d38_210) rfl k) ?_
 show Aq T137 211 #[vr a1, vi 1, vr a3, vj 1, vz, vi 31, vi 0, vj 0, vz, vi 1, vu, vu, vu, vu, vu] [(.long ((0 : Int64) <<< ((32 : Int32) &&& 0x3f).toInt64))]
 refine aN X137 hx hby d38_211 rfl rfl ?_
 obtain ⟨T138, X138, e138, st138⟩ := gF X137 hx hZ hown (tw127 hw) e137 ((f113.other W120 (Or.inl ne_a3_a1.symm)).other W131 (Or.inl ne132)) (g := (mkF m 212 #[vr a1, vi 1, vr a3, vj 1, vz, vi 31, vi 0, vj 0, vz, vi 1, vu, vu, vu, vu, vu] [(.ref a1), (.long ((0 : Int64) <<< ((32 : Int32) &&& 0x3f).toInt64))])) rfl rfl (hb hby d38_212)
 refine dS st138 ?_
 show Aq T138 215 #[vr a1, vi 1, vr a3, vj 1, vz, vi 31, vi 0, vj 0, vz, vi 1, vu, vu, vu, vu, vu] [(.ref va), (.long ((0 : Int64) <<< ((32 : Int32) &&& 0x3f).toInt64))]
 refine aN X138 hx hby d38_215 rfl rfl ?_
 obtain ⟨T139, X139, e139, st139⟩ := gF X138 hx hZ hown (tw108 hw) e138 ((f115.other W120 (Or.inl ne_a3_a1.symm)).other W131 (Or.inl ne132)) (g := (mkF m 216 #[vr a1, vi 1, vr a3, vj 1, vz, vi 31, vi 0, vj 0, vz, vi 1, vu, vu, vu, vu, vu] [(.ref a1), (.ref va), (.long ((0 : Int64) <<< ((32 : Int32) &&& 0x3f).toInt64))])) rfl rfl (hb hby d38_216)
 refine dS st139 ?_
 show Aq T139 219 #[vr a1, vi 1, vr a3, vj 1, vz, vi 31, vi 0, vj 0, vz, vi 1, vu, vu, vu, vu, vu] [(.int 0), (.ref va), (.long ((0 : Int64) <<< ((32 : Int32) &&& 0x3f).toInt64))]
 refine aN X139 hx hby d38_219 rfl rfl ?_
 obtain ⟨T140, X140, e140, st140⟩ := gF X139 hx hZ hown (tw112 hw) e139 ((f114.other W120 (Or.inl ne_a3_a1.symm)).other W131 (Or.inl ne132)) (g := (mkF m 220 #[vr a1, vi 1, vr a3, vj 1, vz, vi 31, vi 0, vj 0, vz, vi 1, vu, vu, vu, vu, vu] [(.ref a1), (.int 0), (.ref va), (.long ((0 : Int64) <<< ((32 : Int32) &&& 0x3f).toInt64))])) rfl rfl (hb hby d38_220)
 refine dS st140 ?_
 show Aq T140 223 #[vr a1, vi 1, vr a3, vj 1, vz, vi 31, vi 0, vj 0, vz, vi 1, vu, vu, vu, vu, vu] [(.int 2), (.int 0), (.ref va), (.long ((0 : Int64) <<< ((32 : Int32) &&& 0x3f).toInt64))]
 refine iA X140 hx hby d38_223 ?_
 rw [show ((0 : Int32) + (2 : Int32)) = (2 : Int32) from by decide]
 refine iL X140 hx hby d38_224 rfl ?_
 refine iS X140 hx hby d38_226 ?_
 rw [show ((2 : Int32) - (1 : Int32)) = (1 : Int32) from by decide]
 refine dS (ldI X140 hx hZ e140 (f121.other W131 ne133) (j := (1 : Int32)) (x := (.int w1)) (by decide) rfl (g := (mkF m 227 #[vr a1, vi 1, vr a3, vj 1, vz, vi 31, vi 0, vj 0, vz, vi 1, vu, vu, vu, vu, vu] [(.int 1), (.ref va), (.long ((0 : Int64) <<< ((32 : Int32) &&& 0x3f).toInt64))])) rfl rfl (hb hby d38_227)) ?_
 show Aq T140 228 #[vr a1, vi 1, vr a3, vj 1, vz, vi 31, vi 0, vj 0, vz, vi 1, vu, vu, vu, vu, vu] [(.int w1), (.long ((0 : Int64) <<< ((32 : Int32) &&& 0x3f).toInt64))]
 refine dS (fun t k => XS.i2l X140.here hx rfl (hb hby d38_228) rfl k) ?_
 show Aq T140 229 #[vr a1, vi 1, vr a3, vj 1, vz, vi 31, vi 0, vj 0, vz, vi 1, vu, vu, vu, vu, vu] [(.long (w1).toInt64), (.long ((0 : Int64) <<< ((32 : Int32) &&& 0x3f).toInt64))]
 refine dS (X140.ldc2Long hx hown (mvT hZ (tw238 hw)) (g := (mkF m 229 #[vr a1, vi 1, vr a3, vj 1, vz, vi 31, vi 0, vj 0, vz, vi 1, vu, vu, vu, vu, vu] [(.long (w1).toInt64), (.long ((0 : Int64) <<< ((32 : Int32) &&& 0x3f).toInt64))])) rfl (hb hby d38_229)) ?_
 show Aq T140 232 #[vr a1, vi 1, vr a3, vj 1, vz, vi 31, vi 0, vj 0, vz, vi 1, vu, vu, vu, vu, vu] [(.long 4294967295), (.long (w1).toInt64), (.long ((0 : Int64) <<< ((32 : Int32) &&& 0x3f).toInt64))]
 refine dS (fun t k => XS.land X140.here hx rfl (hb hby d38_232) rfl k) ?_
 show Aq T140 233 #[vr a1, vi 1, vr a3, vj 1, vz, vi 31, vi 0, vj 0, vz, vi 1, vu, vu, vu, vu, vu] [(.long ((w1).toInt64 &&& (4294967295 : Int64))), (.long ((0 : Int64) <<< ((32 : Int32) &&& 0x3f).toInt64))]
 refine dS (fun t k => XS.lor X140.here hx rfl (hb hby d38_233) rfl k) ?_
 show Aq T140 234 #[vr a1, vi 1, vr a3, vj 1, vz, vi 31, vi 0, vj 0, vz, vi 1, vu, vu, vu, vu, vu] [(.long (((0 : Int64) <<< ((32 : Int32) &&& 0x3f).toInt64) ||| ((w1).toInt64 &&& (4294967295 : Int64))))]
 rw [show (((0 : Int64) <<< ((32 : Int32) &&& 0x3f).toInt64) ||| ((w1).toInt64 &&& (4294967295 : Int64))) = ((w1).toInt64 &&& (4294967295 : Int64)) from (own_or1 w1)]
 show Aq T140 234 #[vr a1, vi 1, vr a3, vj 1, vz, vi 31, vi 0, vj 0, vz, vi 1, vu, vu, vu, vu, vu] [(.long ((w1).toInt64 &&& (4294967295 : Int64)))]
 refine dS (fun t k => XS.lstore X140.here hx rfl (hb hby d38_234) rfl (l' := #[vr a1, vi 1, vr a3, vj 1, vz, vi 31, vi 0, vj 0, vz, vi 1, vj ((w1).toInt64 &&& (4294967295 : Int64)), vz, vu, vu, vu]) rfl k) ?_
 show Aq T140 236 #[vr a1, vi 1, vr a3, vj 1, vz, vi 31, vi 0, vj 0, vz, vi 1, vj ((w1).toInt64 &&& (4294967295 : Int64)), vz, vu, vu, vu] []
 refine jL X140 hx hby d38_236 rfl ?_
 refine dS (fun t k => XS.lconst X140.here hx rfl (hb hby d38_238) k) ?_
 show Aq T140 239 #[vr a1, vi 1, vr a3, vj 1, vz, vi 31, vi 0, vj 0, vz, vi 1, vj ((w1).toInt64 &&& (4294967295 : Int64)), vz, vu, vu, vu] [(.long 0), (.long ((w1).toInt64 &&& (4294967295 : Int64)))]
 refine dS (fun t k => XS.lcmp X140.here hx rfl (hb hby d38_239) rfl k) ?_
 show Aq T140 240 #[vr a1, vi 1, vr a3, vj 1, vz, vi 31, vi 0, vj 0, vz, vi 1, vj ((w1).toInt64 &&& (4294967295 : Int64)), vz, vu, vu, vu] [(.int (lcmpW ((w1).toInt64 &&& (4294967295 : Int64)) (0 : Int64)))]
 refine iF X140 hx hby d38_240 ((if0 _ _).trans (flt (fun q_ => (own_m64nn w1) ((lw_lt _ _).mp q_))).1) ?_
 refine jL X140 hx hby d38_243 rfl ?_
 refine jN X140 hx hby d38_245 rfl ?_
 refine dS (fun t k => XS.ldiv X140.here hx rfl (hb hby d38_246) rfl (by decide) k) ?_
 show Aq T140 247 #[vr a1, vi 1, vr a3, vj 1, vz, vi 31, vi 0, vj 0, vz, vi 1, vj ((w1).toInt64 &&& (4294967295 : Int64)), vz, vu, vu, vu] [(.long (((w1).toInt64 &&& (4294967295 : Int64)) / (1 : Int64)))]
 refine dS (fun t k => XS.l2i X140.here hx rfl (hb hby d38_247) rfl k) ?_
 show Aq T140 248 #[vr a1, vi 1, vr a3, vj 1, vz, vi 31, vi 0, vj 0, vz, vi 1, vj ((w1).toInt64 &&& (4294967295 : Int64)), vz, vu, vu, vu] [(.int ((((w1).toInt64 &&& (4294967295 : Int64)) / (1 : Int64))).toInt32)]
 rw [show ((((w1).toInt64 &&& (4294967295 : Int64)) / (1 : Int64))).toInt32 = w1 from (own_q1 w1)]
 show Aq T140 248 #[vr a1, vi 1, vr a3, vj 1, vz, vi 31, vi 0, vj 0, vz, vi 1, vj ((w1).toInt64 &&& (4294967295 : Int64)), vz, vu, vu, vu] [(.int w1)]
 refine sL X140 hx hby d38_248 (l' := #[vr a1, vi 1, vr a3, vj 1, vz, vi 31, vi 0, vj 0, vz, vi 1, vj ((w1).toInt64 &&& (4294967295 : Int64)), vz, vi w1, vu, vu]) rfl ?_
 refine jL X140 hx hby d38_250 rfl ?_
 refine iL X140 hx hby d38_252 rfl ?_
 refine dS (fun t k => XS.i2l X140.here hx rfl (hb hby d38_254) rfl k) ?_
 show Aq T140 255 #[vr a1, vi 1, vr a3, vj 1, vz, vi 31, vi 0, vj 0, vz, vi 1, vj ((w1).toInt64 &&& (4294967295 : Int64)), vz, vi w1, vu, vu] [(.long (w1).toInt64), (.long ((w1).toInt64 &&& (4294967295 : Int64)))]
 refine jN X140 hx hby d38_255 rfl ?_
 refine dS (fun t k => XS.lmul X140.here hx rfl (hb hby d38_256) rfl k) ?_
 show Aq T140 257 #[vr a1, vi 1, vr a3, vj 1, vz, vi 31, vi 0, vj 0, vz, vi 1, vj ((w1).toInt64 &&& (4294967295 : Int64)), vz, vi w1, vu, vu] [(.long ((w1).toInt64 * (1 : Int64))), (.long ((w1).toInt64 &&& (4294967295 : Int64)))]
 refine dS (fun t k => XS.lsub X140.here hx rfl (hb hby d38_257) rfl k) ?_
 show Aq T140 258 #[vr a1, vi 1, vr a3, vj 1, vz, vi 31, vi 0, vj 0, vz, vi 1, vj ((w1).toInt64 &&& (4294967295 : Int64)), vz, vi w1, vu, vu] [(.long (((w1).toInt64 &&& (4294967295 : Int64)) - ((w1).toInt64 * (1 : Int64))))]
 refine dS (fun t k => XS.l2i X140.here hx rfl (hb hby d38_258) rfl k) ?_
 show Aq T140 259 #[vr a1, vi 1, vr a3, vj 1, vz, vi 31, vi 0, vj 0, vz, vi 1, vj ((w1).toInt64 &&& (4294967295 : Int64)), vz, vi w1, vu, vu] [(.int ((((w1).toInt64 &&& (4294967295 : Int64)) - ((w1).toInt64 * (1 : Int64)))).toInt32)]
 rw [show ((((w1).toInt64 &&& (4294967295 : Int64)) - ((w1).toInt64 * (1 : Int64)))).toInt32 = (0 : Int32) from (own_r1 w1)]
 show Aq T140 259 #[vr a1, vi 1, vr a3, vj 1, vz, vi 31, vi 0, vj 0, vz, vi 1, vj ((w1).toInt64 &&& (4294967295 : Int64)), vz, vi w1, vu, vu] [(.int 0)]
 refine sL X140 hx hby d38_259 (l' := #[vr a1, vi 1, vr a3, vj 1, vz, vi 31, vi 0, vj 0, vz, vi 1, vj ((w1).toInt64 &&& (4294967295 : Int64)), vz, vi w1, vu, vu]) rfl ?_
 refine gO X140 hx hby d38_261 (pc' := 289) (H := ?_)
 refine aN X140 hx hby d38_289 rfl rfl ?_
 obtain ⟨T141, X141, e141, st141⟩ := gF X140 hx hZ hown (tw127 hw) e140 (f122.other W131 (Or.inl ne111)) (g := (mkF m 290 #[vr a1, vi 1, vr a3, vj 1, vz, vi 31, vi 0, vj 0, vz, vi 1, vj ((w1).toInt64 &&& (4294967295 : Int64)), vz, vi w1, vu, vu] [(.ref a3)])) rfl rfl (hb hby d38_290)
 refine dS st141 ?_
 show Aq T141 293 #[vr a1, vi 1, vr a3, vj 1, vz, vi 31, vi 0, vj 0, vz, vi 1, vj ((w1).toInt64 &&& (4294967295 : Int64)), vz, vi w1, vu, vu] [(.ref b105)]
 refine aN X141 hx hby d38_293 rfl rfl ?_
 obtain ⟨T142, X142, e142, st142⟩ := gF X141 hx hZ hown (tw112 hw) e141 ((f114.other W120 (Or.inl ne_a3_a1.symm)).other W131 (Or.inl ne132)) (g := (mkF m 294 #[vr a1, vi 1, vr a3, vj 1, vz, vi 31, vi 0, vj 0, vz, vi 1, vj ((w1).toInt64 &&& (4294967295 : Int64)), vz, vi w1, vu, vu] [(.ref a1), (.ref b105)])) rfl rfl (hb hby d38_294)
 refine dS st142 ?_
 show Aq T142 297 #[vr a1, vi 1, vr a3, vj 1, vz, vi 31, vi 0, vj 0, vz, vi 1, vj ((w1).toInt64 &&& (4294967295 : Int64)), vz, vi w1, vu, vu] [(.int 2), (.ref b105)]
 refine iL X142 hx hby d38_297 rfl ?_
 refine iS X142 hx hby d38_299 ?_
 rw [show ((2 : Int32) - (1 : Int32)) = (1 : Int32) from by decide]
 refine iL X142 hx hby d38_300 rfl ?_
 obtain ⟨T143, h143, X143, e143, W143, A143, st143⟩ := stoI X142 hx hZ e142 f135 (j := (1 : Int32)) (by decide) (i := 1) (by decide) (Nat.le_of_ble_eq_true rfl) (g := (mkF m 302 #[vr a1, vi 1, vr a3, vj 1, vz, vi 31, vi 0, vj 0, vz, vi 1, vj ((w1).toInt64 &&& (4294967295 : Int64)), vz, vi w1, vu, vu] [(.int w1), (.int 1), (.ref b105)])) rfl rfl (hb hby d38_302)
 have f144 := ((f113.other W120 (Or.inl ne_a3_a1.symm)).other W131 (Or.inl ne132)).other W143 (Or.inl ne132)
 have f145 := ((f114.other W120 (Or.inl ne_a3_a1.symm)).other W131 (Or.inl ne132)).other W143 (Or.inl ne132)
 have f146 := ((f115.other W120 (Or.inl ne_a3_a1.symm)).other W131 (Or.inl ne132)).other W143 (Or.inl ne132)
 have f147 : Ax Z h143 b105 .int [(.int w0), (.int w1)] := A143
 have Z143 := lw (lw (lw (lw (lw (lq Z0 E105.1) W107) W112) W120) W131) W143
 have K143 := ((K112.wr W120 (Or.inl me0)).wr W131 (Or.inr sz_b105)).wr W143 (Or.inr sz_b105)
 refine dS st143 ?_
 show Aq T143 303 #[vr a1, vi 1, vr a3, vj 1, vz, vi 31, vi 0, vj 0, vz, vi 1, vj ((w1).toInt64 &&& (4294967295 : Int64)), vz, vi w1, vu, vu] []
 refine iL X143 hx hby d38_303 rfl ?_
 refine dS (fun t k => XS.i2l X143.here hx rfl (hb hby d38_305) rfl k) ?_
 show Aq T143 306 #[vr a1, vi 1, vr a3, vj 1, vz, vi 31, vi 0, vj 0, vz, vi 1, vj ((w1).toInt64 &&& (4294967295 : Int64)), vz, vi w1, vu, vu] [(.long ((0 : Int32)).toInt64)]
 refine dS (X143.ldc2Long hx hown (mvT hZ (tw238 hw)) (g := (mkF m 306 #[vr a1, vi 1, vr a3, vj 1, vz, vi 31, vi 0, vj 0, vz, vi 1, vj ((w1).toInt64 &&& (4294967295 : Int64)), vz, vi w1, vu, vu] [(.long ((0 : Int32)).toInt64)])) rfl (hb hby d38_306)) ?_
 show Aq T143 309 #[vr a1, vi 1, vr a3, vj 1, vz, vi 31, vi 0, vj 0, vz, vi 1, vj ((w1).toInt64 &&& (4294967295 : Int64)), vz, vi w1, vu, vu] [(.long 4294967295), (.long ((0 : Int32)).toInt64)]
 refine dS (fun t k => XS.land X143.here hx rfl (hb hby d38_309) rfl k) ?_
 show Aq T143 310 #[vr a1, vi 1, vr a3, vj 1, vz, vi 31, vi 0, vj 0, vz, vi 1, vj ((w1).toInt64 &&& (4294967295 : Int64)), vz, vi w1, vu, vu] [(.long (((0 : Int32)).toInt64 &&& (4294967295 : Int64)))]
 rw [show (((0 : Int32)).toInt64 &&& (4294967295 : Int64)) = (0 : Int64) from (by decide)]
 show Aq T143 310 #[vr a1, vi 1, vr a3, vj 1, vz, vi 31, vi 0, vj 0, vz, vi 1, vj ((w1).toInt64 &&& (4294967295 : Int64)), vz, vi w1, vu, vu] [(.long 0)]
 refine dS (fun t k => XS.lstore X143.here hx rfl (hb hby d38_310) rfl (l' := #[vr a1, vi 1, vr a3, vj 1, vz, vi 31, vi 0, vj 0, vz, vi 1, vj ((w1).toInt64 &&& (4294967295 : Int64)), vz, vi w1, vu, vu]) rfl k) ?_
 show Aq T143 312 #[vr a1, vi 1, vr a3, vj 1, vz, vi 31, vi 0, vj 0, vz, vi 1, vj ((w1).toInt64 &&& (4294967295 : Int64)), vz, vi w1, vu, vu] []
 refine gO X143 hx hby d38_312 (pc' := 198) (H := ?_)
 refine dS (fun t k => XS.iinc X143.here hx rfl (hb hby d38_198) rfl (l' := #[vr a1, vi 1, vr a3, vj 1, vz, vi 31, vi 0, vj 0, vz, vi ((1 : Int32) + (-1 : Int32)), vj ((w1).toInt64 &&& (4294967295 : Int64)), vz, vi w1, vu, vu]) rfl k) ?_
 show Aq T143 201 #[vr a1, vi 1, vr a3, vj 1, vz, vi 31, vi 0, vj 0, vz, vi ((1 : Int32) + (-1 : Int32)), vj ((w1).toInt64 &&& (4294967295 : Int64)), vz, vi w1, vu, vu] []
 rw [show ((1 : Int32) + (-1 : Int32)) = (0 : Int32) from by decide]
 show Aq T143 201 #[vr a1, vi 1, vr a3, vj 1, vz, vi 31, vi 0, vj 0, vz, vi 0, vj ((w1).toInt64 &&& (4294967295 : Int64)), vz, vi w1, vu, vu] []
 refine iL X143 hx hby d38_201 rfl ?_
 refine iY X143 hx hby d38_203 (pc' := 315) ((if0 _ _).trans (flt (by decide)).2.2.2) (H := ?_)
 refine aN X143 hx hby d38_315 rfl rfl ?_
 obtain ⟨v148, T148, L148, X148, hQ148, st148⟩ := cV X143 hx hZ hown (tw272 hw) (tw273 hw) (tw275 hw) (tw274 hw) (tw102 hw) (tw276 hw) (nor2 l Z a0 hw [] a3 b105 w0 w1 h143 n0 Z143 ((((((E_a3.ext E105).wr W107).wr W112).wr W120).wr W131).wr W143) ((f122.other W131 (Or.inl ne111)).other W143 (Or.inl ne111)) ((f123.other W131 (Or.inl ne111)).other W143 (Or.inl ne111)) ((f124.other W131 (Or.inl ne111)).other W143 (Or.inl ne111)) f147 hw0) (W := 0) e143 ((((((E_a3.ext E105).wr W107).wr W112).wr W120).wr W131).wr W143) (g := (mkF m 316 #[vr a1, vi 1, vr a3, vj 1, vz, vi 31, vi 0, vj 0, vz, vi 0, vj ((w1).toInt64 &&& (4294967295 : Int64)), vz, vi w1, vu, vu] [(.ref a3)])) rfl hml rfl (argsL := []) (rest := []) (lenOf pd_2 rfl) rfl rfl rfl (hb hby d38_316) rfl
 refine Done.far st148 ?_
 obtain ⟨rfl, N148q, K148q⟩ := hQ148
 have N148 := Fr.app (Fr.snoc X143 (Fr.snoc X131 N127 (lb Z0 gq105)) (lb Z0 gq105)) N148q
 have f149 := ((((((E_a1.ext E105).wr W107).wr W112).wr W120).wr W131).wr W143).keep K148q
 have f150 := ((((((E_a3.ext E105).wr W107).wr W112).wr W120).wr W131).wr W143).keep K148q
 have f151 := ((f122.other W131 (Or.inl ne111)).other W143 (Or.inl ne111)).keep K148q nin0
 have f152 := ((f123.other W131 (Or.inl ne111)).other W143 (Or.inl ne111)).keep K148q nin0
 have f153 := ((f124.other W131 (Or.inl ne111)).other W143 (Or.inl ne111)).keep K148q nin0
 show Aq T148 319 #[vr a1, vi 1, vr a3, vj 1, vz, vi 31, vi 0, vj 0, vz, vi 0, vj ((w1).toInt64 &&& (4294967295 : Int64)), vz, vi w1, vu, vu] []
 refine iL X148 hx hby d38_319 rfl ?_
 refine iF X148 hx hby d38_321 ((if0 _ _).trans (tlt (by decide)).2.2.2) ?_
 refine iL X148 hx hby d38_324 rfl ?_
 refine iN X148 hx hby d38_326 rfl ?_
 refine dS (fun t k => iremM X148 hx rfl (hb hby d38_327) rfl (by decide) k) ?_
 show Aq T148 328 #[vr a1, vi 1, vr a3, vj 1, vz, vi 31, vi 0, vj 0, vz, vi 0, vj ((w1).toInt64 &&& (4294967295 : Int64)), vz, vi w1, vu, vu] [(.int ((0 : Int32) % (1 : Int32)))]
 rw [show ((0 : Int32) % (1 : Int32)) = (0 : Int32) from (by decide)]
 show Aq T148 328 #[vr a1, vi 1, vr a3, vj 1, vz, vi 31, vi 0, vj 0, vz, vi 0, vj ((w1).toInt64 &&& (4294967295 : Int64)), vz, vi w1, vu, vu] [(.int 0)]
 exact Done.int X148 hx hlk hret (hb hby d38_328) (by decide) (by decide) ⟨b105, rfl, N148, ⟨(K143.trans K148q all0), f150, f151, f152, f153, (f147.keep K148q nin0), ((((((B105.wr W107).wr W112).wr W120).wr W131).wr W143).keep K148q), sz_b105⟩⟩
theorem d35_0 : dq cd26 0 (.aload_n 1) 1 := by decide +kernel
theorem d35_1 : dq cd26 1 (.getfield 21) 3 := by decide +kernel
theorem d35_4 : dq cd26 4 (.ifCond .ne 13) 3 := by decide +kernel
theorem d35_17 : dq cd26 17 (.aload_n 0) 1 := by decide +kernel
theorem d35_18 : dq cd26 18 (.getfield 21) 3 := by decide +kernel
theorem d35_21 : dq cd26 21 (.ifCond .ne 29) 3 := by decide +kernel
theorem d35_24 : dq cd26 24 (.aload_n 2) 1 := by decide +kernel
theorem d35_25 : dq cd26 25 (.aload_n 2) 1 := by decide +kernel
theorem d35_26 : dq cd26 26 (.iconst 0) 1 := by decide +kernel
theorem d35_27 : dq cd26 27 .dup_x1 1 := by decide +kernel
theorem d35_28 : dq cd26 28 (.putfield 11) 3 := by decide +kernel
theorem d35_31 : dq cd26 31 (.putfield 21) 3 := by decide +kernel
theorem d35_34 : dq cd26 34 (.iload_n 3) 1 := by decide +kernel
theorem d35_35 : dq cd26 35 (.ifCond .eq 13) 3 := by decide +kernel
theorem d35_48 : dq cd26 48 .aconst_null 1 := by decide +kernel
theorem d35_49 : dq cd26 49 .areturn 1 := by decide +kernel
theorem ef_35 (m : MethodId) (a1 : Addr) (a2 : Addr) (a3 : Addr) (p4 : Int32) : entryFrame m #[(.ref a1), (.ref a2), (.ref a3), (.int p4)] 8 = mkF m 0 #[.val (.ref a1), .val (.ref a2), .val (.ref a3), .val (.int p4), .unset, .unset, .unset, .unset] [] := by first | (simp [entryFrame, mkF, argsToLocals, Value.category]; done) | rfl
theorem mdk0 (l : Launch) (Z : State) (a0 : Array Value) (hw : HH a0 Z) (ws : List Jvm.Cond) (a1 a2 a3 : Addr) (p4 : Int32) (va vb vq : Addr) (h0 : Heap) (n0 : Nat) (Z0 : n0 ≤ h0.size) (hl_p4 : p4 = (0 : Int32)) (E_a1 : Fl3 Z h0 a1) (F_a1_value : Fl0 Z h0 a1 (.ref va)) (F_a1_intLen : Fl1 Z h0 a1 (.int 0)) (F_a1_offset : Fl2 Z h0 a1 (.int 0)) (A_va : Ax Z h0 va .int []) (E_a2 : Fl3 Z h0 a2) (F_a2_value : Fl0 Z h0 a2 (.ref vb)) (F_a2_intLen : Fl1 Z h0 a2 (.int 1)) (F_a2_offset : Fl2 Z h0 a2 (.int 0)) (A_vb : Ax Z h0 vb .int [(.int 1)]) (E_a3 : Fl3 Z h0 a3) (F_a3_value : Fl0 Z h0 a3 (.ref vq)) (F_a3_intLen : Fl1 Z h0 a3 (.int 0)) (F_a3_offset : Fl2 Z h0 a3 (.int 0)) (A_vq : Ax Z h0 vq .int [(.int 0)]) (g_a3 : n0 ≤ a3) (g_vq : n0 ≤ vq) (ne_a3_vq : a3 ≠ vq) (ne_a3_a1 : a3 ≠ a1) (ne_a3_va : a3 ≠ va) (ne_a3_a2 : a3 ≠ a2) (ne_a3_vb : a3 ≠ vb) (ne_vq_a1 : vq ≠ a1) (ne_vq_va : vq ≠ va) (ne_vq_a2 : vq ≠ a2) (ne_vq_vb : vq ≠ vb) : MF l "java/math/MutableBigInteger" "divideKnuth" "(Ljava/math/MutableBigInteger;Ljava/math/MutableBigInteger;Z)Ljava/math/MutableBigInteger;" jdk_2101_method_57_code 8 (some (.object "java/math/MutableBigInteger")) ws ⟨0, 0, 0, 0⟩ Z h0 #[(.ref a1), (.ref a2), (.ref a3), (.int p4)] (fun v h L => v = some .null ∧ Fr n0 L ∧ Keep h0 h [a3, vq] ∧ Fl3 Z h a3 ∧ Fl0 Z h a3 (.ref vq) ∧ Fl1 Z h a3 (.int 0) ∧ Fl2 Z h a3 (.int 0) ∧ Ax Z h vq .int [(.int 0)]) := by
 refine own_body (n0 := n0) (plainFor_of_name pn_27) (fun m => ef_35 m a1 a2 a3 p4) ?_
 intro p e s m below meth c s₁ hZ hx hby hml hown hlk hret hnm X0 e0 N0
 subst hl_p4
 show Aq s₁ 0 #[vr a1, vr a2, vr a3, vi 0, vu, vu, vu, vu] []
 refine aN X0 hx hby d35_0 rfl rfl ?_
 obtain ⟨T101, X101, e101, st101⟩ := gF X0 hx hZ hown (tw112 hw) e0 F_a2_intLen (g := (mkF m 1 #[vr a1, vr a2, vr a3, vi 0, vu, vu, vu, vu] [(.ref a2)])) rfl rfl (hb hby d35_1)
 refine dS st101 ?_
 show Aq T101 4 #[vr a1, vr a2, vr a3, vi 0, vu, vu, vu, vu] [(.int 1)]
 refine iY X101 hx hby d35_4 (pc' := 17) ((if0 _ _).trans (feq (by decide)).2) (H := ?_)
 refine aN X101 hx hby d35_17 rfl rfl ?_
 obtain ⟨T102, X102, e102, st102⟩ := gF X101 hx hZ hown (tw112 hw) e101 F_a1_intLen (g := (mkF m 18 #[vr a1, vr a2, vr a3, vi 0, vu, vu, vu, vu] [(.ref a1)])) rfl rfl (hb hby d35_18)
 refine dS st102 ?_
 show Aq T102 21 #[vr a1, vr a2, vr a3, vi 0, vu, vu, vu, vu] [(.int 0)]
 refine iF X102 hx hby d35_21 ((if0 _ _).trans (teq (by decide)).2) ?_
 refine aN X102 hx hby d35_24 rfl rfl ?_
 refine aN X102 hx hby d35_25 rfl rfl ?_
 refine iC X102 hx hby d35_26 (z := 0) rfl ?_
 refine dS (fun t k => XS.dupX1 X102.here hx rfl (hb hby d35_27) rfl rfl rfl k) ?_
 show Aq T102 28 #[vr a1, vr a2, vr a3, vi 0, vu, vu, vu, vu] [(.int 0), (.ref a3), (.int 0), (.ref a3)]
 obtain ⟨T103, h103, X103, e103, W103, st103⟩ := putF X102 hx hZ hown (host := "") (Or.inl (tw108 hw)) Via.refl e102 F_a3_offset E_a3 (Or.inl (tw109 hw)) (tw101 hw) (ty := .int) (by decide) rfl rfl (g := (mkF m 28 #[vr a1, vr a2, vr a3, vi 0, vu, vu, vu, vu] [(.int 0), (.ref a3), (.int 0), (.ref a3)])) rfl rfl (hb hby d35_28)
 have f104 := F_a3_value.other W103 (Or.inr (sq0 hw))
 have f105 := F_a3_intLen.other W103 (Or.inr (sq1 hw))
 have f106 := F_a3_offset.same W103
 refine dS st103 ?_
 show Aq T103 31 #[vr a1, vr a2, vr a3, vi 0, vu, vu, vu, vu] [(.int 0), (.ref a3)]
 obtain ⟨T107, h107, X107, e107, W107, st107⟩ := putF X103 hx hZ hown (host := "") (Or.inl (tw112 hw)) Via.refl e103 f105 (E_a3.wr W103) (Or.inl (tw113 hw)) (tw101 hw) (ty := .int) (by decide) rfl rfl (g := (mkF m 31 #[vr a1, vr a2, vr a3, vi 0, vu, vu, vu, vu] [(.int 0), (.ref a3)])) rfl rfl (hb hby d35_31)
 have f108 := (F_a1_value.other W103 (Or.inl ne_a3_a1.symm)).other W107 (Or.inl ne_a3_a1.symm)
 have f109 := (F_a1_intLen.other W103 (Or.inl ne_a3_a1.symm)).other W107 (Or.inl ne_a3_a1.symm)
 have f110 := (F_a1_offset.other W103 (Or.inl ne_a3_a1.symm)).other W107 (Or.inl ne_a3_a1.symm)
 have f111 := (F_a2_value.other W103 (Or.inl ne_a3_a2.symm)).other W107 (Or.inl ne_a3_a2.symm)
 have f112 := (F_a2_intLen.other W103 (Or.inl ne_a3_a2.symm)).other W107 (Or.inl ne_a3_a2.symm)
 have f113 := (F_a2_offset.other W103 (Or.inl ne_a3_a2.symm)).other W107 (Or.inl ne_a3_a2.symm)
 have f114 := f104.other W107 (Or.inr (sq4 hw))
 have f115 := f105.same W107
 have f116 := f106.other W107 (Or.inr (sq5 hw))
 refine dS st107 ?_
 show Aq T107 34 #[vr a1, vr a2, vr a3, vi 0, vu, vu, vu, vu] []
 refine iN X107 hx hby d35_34 rfl ?_
 refine iY X107 hx hby d35_35 (pc' := 48) ((if0 _ _).trans (teq (by decide)).1) (H := ?_)
 refine dS (fun t k => XS.aconstNull X107.here hx rfl (hb hby d35_48) k) ?_
 show Aq T107 49 #[vr a1, vr a2, vr a3, vi 0, vu, vu, vu, vu] [.null]
 exact Done.ref X107 hx hlk hret rfl rfl rfl (hb hby d35_49) (by decide) (by decide) ⟨rfl, (Fr.snoc X107 (Fr.snoc X103 N0 g_a3) g_a3), (by rw [e107]; exact ⟨(((kr h0 [a3, vq]).wr W103 (Or.inl me0)).wr W107 (Or.inl me0)), ((E_a3.wr W103).wr W107), f114, f115, f116, ((A_vq.other W103 ne_a3_vq.symm).other W107 ne_a3_vq.symm)⟩)⟩
theorem d35_50 : dq cd26 50 (.aload_n 0) 1 := by decide +kernel
theorem d35_51 : dq cd26 51 (.aload_n 1) 1 := by decide +kernel
theorem d35_52 : dq cd26 52 (.invokevirtual 142) 3 := by decide +kernel
theorem d35_55 : dq cd26 55 (.istore 4) 2 := by decide +kernel
theorem d35_57 : dq cd26 57 (.iload 4) 2 := by decide +kernel
theorem d35_59 : dq cd26 59 (.ifCond .ge 30) 3 := by decide +kernel
theorem d35_89 : dq cd26 89 (.iload 4) 2 := by decide +kernel
theorem d35_91 : dq cd26 91 (.ifCond .ne 36) 3 := by decide +kernel
theorem d35_94 : dq cd26 94 (.aload_n 2) 1 := by decide +kernel
theorem d35_95 : dq cd26 95 (.getfield 17) 3 := by decide +kernel
theorem d35_98 : dq cd26 98 (.iconst 0) 1 := by decide +kernel
theorem d35_99 : dq cd26 99 (.aload_n 2) 1 := by decide +kernel
theorem d35_100 : dq cd26 100 (.iconst 1) 1 := by decide +kernel
theorem d35_101 : dq cd26 101 .dup_x1 1 := by decide +kernel
theorem d35_102 : dq cd26 102 (.putfield 21) 3 := by decide +kernel
theorem d35_105 : dq cd26 105 .iastore 1 := by decide +kernel
theorem d35_106 : dq cd26 106 (.aload_n 2) 1 := by decide +kernel
theorem d35_107 : dq cd26 107 (.iconst 0) 1 := by decide +kernel
theorem d35_108 : dq cd26 108 (.putfield 11) 3 := by decide +kernel
theorem d35_111 : dq cd26 111 (.iload_n 3) 1 := by decide +kernel
theorem d35_112 : dq cd26 112 (.ifCond .eq 13) 3 := by decide +kernel
theorem d35_125 : dq cd26 125 .aconst_null 1 := by decide +kernel
theorem d35_126 : dq cd26 126 .areturn 1 := by decide +kernel
theorem d35_127 : dq cd26 127 (.aload_n 2) 1 := by decide +kernel
theorem d35_128 : dq cd26 128 (.invokevirtual 149) 3 := by decide +kernel
theorem d35_131 : dq cd26 131 (.aload_n 1) 1 := by decide +kernel
theorem d35_132 : dq cd26 132 (.getfield 21) 3 := by decide +kernel
theorem d35_135 : dq cd26 135 (.iconst 1) 1 := by decide +kernel
theorem d35_136 : dq cd26 136 (.if_icmp .ne 48) 3 := by decide +kernel
theorem d35_139 : dq cd26 139 (.aload_n 0) 1 := by decide +kernel
theorem d35_140 : dq cd26 140 (.aload_n 1) 1 := by decide +kernel
theorem d35_141 : dq cd26 141 (.getfield 17) 3 := by decide +kernel
theorem d35_144 : dq cd26 144 (.aload_n 1) 1 := by decide +kernel
theorem d35_145 : dq cd26 145 (.getfield 11) 3 := by decide +kernel
theorem d35_148 : dq cd26 148 .iaload 1 := by decide +kernel
theorem d35_149 : dq cd26 149 (.aload_n 2) 1 := by decide +kernel
theorem d35_150 : dq cd26 150 (.invokevirtual 178) 3 := by decide +kernel
theorem d35_153 : dq cd26 153 (.istore 5) 2 := by decide +kernel
theorem d35_155 : dq cd26 155 (.iload_n 3) 1 := by decide +kernel
theorem d35_156 : dq cd26 156 (.ifCond .eq 26) 3 := by decide +kernel
theorem d35_182 : dq cd26 182 .aconst_null 1 := by decide +kernel
theorem d35_183 : dq cd26 183 .areturn 1 := by decide +kernel
theorem mdk1 (l : Launch) (Z : State) (a0 : Array Value) (hw : HH a0 Z) (ws : List Jvm.Cond) (a1 a2 a3 : Addr) (p4 : Int32) (va : Addr) (w0 : Int32) (vb vq : Addr) (h0 : Heap) (n0 : Nat) (Z0 : n0 ≤ h0.size) (hl_p4 : p4 = (0 : Int32)) (E_a1 : Fl3 Z h0 a1) (F_a1_value : Fl0 Z h0 a1 (.ref va)) (F_a1_intLen : Fl1 Z h0 a1 (.int 1)) (F_a1_offset : Fl2 Z h0 a1 (.int 0)) (A_va : Ax Z h0 va .int [(.int w0)]) (E_a2 : Fl3 Z h0 a2) (F_a2_value : Fl0 Z h0 a2 (.ref vb)) (F_a2_intLen : Fl1 Z h0 a2 (.int 1)) (F_a2_offset : Fl2 Z h0 a2 (.int 0)) (A_vb : Ax Z h0 vb .int [(.int 1)]) (E_a3 : Fl3 Z h0 a3) (F_a3_value : Fl0 Z h0 a3 (.ref vq)) (F_a3_intLen : Fl1 Z h0 a3 (.int 0)) (F_a3_offset : Fl2 Z h0 a3 (.int 0)) (A_vq : Ax Z h0 vq .int [(.int 0)]) (g_a3 : n0 ≤ a3) (g_vq : n0 ≤ vq) (ne_a3_vq : a3 ≠ vq) (ne_a3_a1 : a3 ≠ a1) (ne_a3_va : a3 ≠ va) (ne_a3_a2 : a3 ≠ a2) (ne_a3_vb : a3 ≠ vb) (ne_vq_a1 : vq ≠ a1) (ne_vq_va : vq ≠ va) (ne_vq_a2 : vq ≠ a2) (ne_vq_vb : vq ≠ vb) (hw0 : ¬ w0 = (0 : Int32)) : MF l "java/math/MutableBigInteger" "divideKnuth" "(Ljava/math/MutableBigInteger;Ljava/math/MutableBigInteger;Z)Ljava/math/MutableBigInteger;" jdk_2101_method_57_code 8 (some (.object "java/math/MutableBigInteger")) ws ⟨1, 0, 0, 26⟩ Z h0 #[(.ref a1), (.ref a2), (.ref a3), (.int p4)] (fun v h L => v = some .null ∧ Fr n0 L ∧ Keep h0 h [a3, vq] ∧ Fl3 Z h a3 ∧ Fl0 Z h a3 (.ref vq) ∧ Fl1 Z h a3 (.int 1) ∧ Fl2 Z h a3 (.int 0) ∧ Ax Z h vq .int [(.int w0)]) := by
 refine own_body (n0 := n0) (plainFor_of_name pn_27) (fun m => ef_35 m a1 a2 a3 p4) ?_
 intro p e s m below meth c s₁ hZ hx hby hml hown hlk hret hnm X0 e0 N0
 subst hl_p4
 show Aq s₁ 0 #[vr a1, vr a2, vr a3, vi 0, vu, vu, vu, vu] []
 refine aN X0 hx hby d35_0 rfl rfl ?_
 obtain ⟨T101, X101, e101, st101⟩ := gF X0 hx hZ hown (tw112 hw) e0 F_a2_intLen (g := (mkF m 1 #[vr a1, vr a2, vr a3, vi 0, vu, vu, vu, vu] [(.ref a2)])) rfl rfl (hb hby d35_1)
 refine dS st101 ?_
 show Aq T101 4 #[vr a1, vr a2, vr a3, vi 0, vu, vu, vu, vu] [(.int 1)]
 refine iY X101 hx hby d35_4 (pc' := 17) ((if0 _ _).trans (feq (by decide)).2) (H := ?_)
 refine aN X101 hx hby d35_17 rfl rfl ?_
 obtain ⟨T102, X102, e102, st102⟩ := gF X101 hx hZ hown (tw112 hw) e101 F_a1_intLen (g := (mkF m 18 #[vr a1, vr a2, vr a3, vi 0, vu, vu, vu, vu] [(.ref a1)])) rfl rfl (hb hby d35_18)
 refine dS st102 ?_
 show Aq T102 21 #[vr a1, vr a2, vr a3, vi 0, vu, vu, vu, vu] [(.int 1)]
 refine iY X102 hx hby d35_21 (pc' := 50) ((if0 _ _).trans (feq (by decide)).2) (H := ?_)
 refine aN X102 hx hby d35_50 rfl rfl ?_
 refine aN X102 hx hby d35_51 rfl rfl ?_
 obtain ⟨v103, T103, L103, X103, hQ103, st103⟩ := cV X102 hx hZ hown (tw222 hw) (tw223 hw) (tw225 hw) (tw224 hw) (tw102 hw) (tw226 hw) (cmp11 l Z a0 hw [] a1 a2 va vb w0 h0 n0 Z0 E_a1 F_a1_value F_a1_intLen F_a1_offset A_va E_a2 F_a2_value F_a2_intLen F_a2_offset A_vb hw0) (W := 0) e102 E_a1 (g := (mkF m 52 #[vr a1, vr a2, vr a3, vi 0, vu, vu, vu, vu] [(.ref a2), (.ref a1)])) rfl hml rfl (argsL := [(.ref a2)]) (rest := []) (lenOf pd_6 rfl) rfl rfl rfl (hb hby d35_52) rfl
 refine Done.far st103 ?_
 obtain ⟨r0_103, rfl, N103q, K103q, hy103_0⟩ := hQ103
 show Aq T103 55 #[vr a1, vr a2, vr a3, vi 0, vu, vu, vu, vu] [(.int r0_103)]
 refine sL X103 hx hby d35_55 (l' := #[vr a1, vr a2, vr a3, vi 0, vi r0_103, vu, vu, vu]) rfl ?_
 obtain ⟨hw1, rfl⟩ | ⟨hw1, rfl⟩ := hy103_0
 ·show Aq T103 57 #[vr a1, vr a2, vr a3, vi 0, vi 0, vu, vu, vu] []
  refine iL X103 hx hby d35_57 rfl ?_
  refine iY X103 hx hby d35_59 (pc' := 89) ((if0 _ _).trans (flt (by decide)).2.1) (H := ?_)
  refine iL X103 hx hby d35_89 rfl ?_
  refine iF X103 hx hby d35_91 ((if0 _ _).trans (teq (by decide)).2) ?_
  refine aN X103 hx hby d35_94 rfl rfl ?_
  obtain ⟨T104, X104, e104, st104⟩ := gF X103 hx hZ hown (tw127 hw) rfl (F_a3_value.keep K103q nin0) (g := (mkF m 95 #[vr a1, vr a2, vr a3, vi 0, vi 0, vu, vu, vu] [(.ref a3)])) rfl rfl (hb hby d35_95)
  refine dS st104 ?_
  show Aq T104 98 #[vr a1, vr a2, vr a3, vi 0, vi 0, vu, vu, vu] [(.ref vq)]
  refine iC X104 hx hby d35_98 (z := 0) rfl ?_
  refine aN X104 hx hby d35_99 rfl rfl ?_
  refine iC X104 hx hby d35_100 (z := 1) rfl ?_
  refine dS (fun t k => XS.dupX1 X104.here hx rfl (hb hby d35_101) rfl rfl rfl k) ?_
  show Aq T104 102 #[vr a1, vr a2, vr a3, vi 0, vi 0, vu, vu, vu] [(.int 1), (.ref a3), (.int 1), (.int 0), (.ref vq)]
  obtain ⟨T105, h105, X105, e105, W105, st105⟩ := putF X104 hx hZ hown (host := "") (Or.inl (tw112 hw)) Via.refl e104 (F_a3_intLen.keep K103q nin0) (E_a3.keep K103q) (Or.inl (tw113 hw)) (tw101 hw) (ty := .int) (by decide) rfl rfl (g := (mkF m 102 #[vr a1, vr a2, vr a3, vi 0, vi 0, vu, vu, vu] [(.int 1), (.ref a3), (.int 1), (.int 0), (.ref vq)])) rfl rfl (hb hby d35_102)
  have f106 := (F_a3_value.keep K103q nin0).other W105 (Or.inr (sq4 hw))
  have f107 := (F_a3_intLen.keep K103q nin0).same W105
  have f108 := (F_a3_offset.keep K103q nin0).other W105 (Or.inr (sq5 hw))
  refine dS st105 ?_
  show Aq T105 105 #[vr a1, vr a2, vr a3, vi 0, vi 0, vu, vu, vu] [(.int 1), (.int 0), (.ref vq)]
  obtain ⟨T109, h109, X109, e109, W109, A109, st109⟩ := stoI X105 hx hZ e105 ((A_vq.keep K103q nin0).other W105 ne_a3_vq.symm) (j := (0 : Int32)) (by decide) (i := 0) (by decide) (Nat.le_of_ble_eq_true rfl) (g := (mkF m 105 #[vr a1, vr a2, vr a3, vi 0, vi 0, vu, vu, vu] [(.int 1), (.int 0), (.ref vq)])) rfl rfl (hb hby d35_105)
  have f110 := ((F_a1_value.keep K103q nin0).other W105 (Or.inl ne_a3_a1.symm)).other W109 (Or.inl ne_vq_a1.symm)
  have f111 := ((F_a1_intLen.keep K103q nin0).other W105 (Or.inl ne_a3_a1.symm)).other W109 (Or.inl ne_vq_a1.symm)
  have f112 := ((F_a1_offset.keep K103q nin0).other W105 (Or.inl ne_a3_a1.symm)).other W109 (Or.inl ne_vq_a1.symm)
  have f113 := ((A_va.keep K103q nin0).other W105 ne_a3_va.symm).other W109 ne_vq_va.symm
  have f114 := ((F_a2_value.keep K103q nin0).other W105 (Or.inl ne_a3_a2.symm)).other W109 (Or.inl ne_vq_a2.symm)
  have f115 := ((F_a2_intLen.keep K103q nin0).other W105 (Or.inl ne_a3_a2.symm)).other W109 (Or.inl ne_vq_a2.symm)
  have f116 := ((F_a2_offset.keep K103q nin0).other W105 (Or.inl ne_a3_a2.symm)).other W109 (Or.inl ne_vq_a2.symm)
  have f117 := ((A_vb.keep K103q nin0).other W105 ne_a3_vb.symm).other W109 ne_vq_vb.symm
  have f118 : Ax Z h109 vq .int [(.int 1)] := A109
  have K109 := (((kr h0 [a3, vq]).trans K103q all0).wr W105 (Or.inl me0)).wr W109 (Or.inl me1)
  refine dS st109 ?_
  show Aq T109 106 #[vr a1, vr a2, vr a3, vi 0, vi 0, vu, vu, vu] []
  refine aN X109 hx hby d35_106 rfl rfl ?_
  refine iC X109 hx hby d35_107 (z := 0) rfl ?_
  obtain ⟨T119, h119, X119, e119, W119, st119⟩ := putF X109 hx hZ hown (host := "") (Or.inl (tw108 hw)) Via.refl e109 (f108.other W109 (Or.inl ne_a3_vq)) (((E_a3.keep K103q).wr W105).wr W109) (Or.inl (tw109 hw)) (tw101 hw) (ty := .int) (by decide) rfl rfl (g := (mkF m 108 #[vr a1, vr a2, vr a3, vi 0, vi 0, vu, vu, vu] [(.int 0), (.ref a3)])) rfl rfl (hb hby d35_108)
  have f120 := (f106.other W109 (Or.inl ne_a3_vq)).other W119 (Or.inr (sq0 hw))
  have f121 := (f107.other W109 (Or.inl ne_a3_vq)).other W119 (Or.inr (sq1 hw))
  have f122 := (f108.other W109 (Or.inl ne_a3_vq)).same W119
  have N119 := Fr.snoc X119 (Fr.snoc X109 (Fr.snoc X105 (Fr.app N0 N103q) g_a3) g_vq) g_a3
  refine dS st119 ?_
  show Aq T119 111 #[vr a1, vr a2, vr a3, vi 0, vi 0, vu, vu, vu] []
  refine iN X119 hx hby d35_111 rfl ?_
  refine iY X119 hx hby d35_112 (pc' := 125) ((if0 _ _).trans (teq (by decide)).1) (H := ?_)
  refine dS (fun t k => XS.aconstNull X119.here hx rfl (hb hby d35_125) k) ?_
  show Aq T119 126 #[vr a1, vr a2, vr a3, vi 0, vi 0, vu, vu, vu] [.null]
  exact Done.ref X119 hx hlk hret rfl rfl rfl (hb hby d35_126) (by decide) (by decide) ⟨rfl, N119, (by rw [e119]; exact ⟨(K109.wr W119 (Or.inl me0)), ((((E_a3.keep K103q).wr W105).wr W109).wr W119), f120, f121, f122, (by rw [hw1]; exact (f118.other W119 ne_a3_vq.symm))⟩)⟩
 ·show Aq T103 57 #[vr a1, vr a2, vr a3, vi 0, vi 1, vu, vu, vu] []
  refine iL X103 hx hby d35_57 rfl ?_
  refine iY X103 hx hby d35_59 (pc' := 89) ((if0 _ _).trans (flt (by decide)).2.1) (H := ?_)
  refine iL X103 hx hby d35_89 rfl ?_
  refine iY X103 hx hby d35_91 (pc' := 127) ((if0 _ _).trans (feq (by decide)).2) (H := ?_)
  refine aN X103 hx hby d35_127 rfl rfl ?_
  obtain ⟨v123, T123, L123, X123, hQ123, st123⟩ := cV X103 hx hZ hown (tw228 hw) (tw229 hw) (tw231 hw) (tw230 hw) (tw102 hw) (tw232 hw) (clr l Z a0 hw [] a3 vq (0 : Int32) (0 : Int32) T103.heap n0 (lq Z0 K103q.1) (E_a3.keep K103q) (F_a3_value.keep K103q nin0) (F_a3_intLen.keep K103q nin0) (F_a3_offset.keep K103q nin0) (A_vq.keep K103q nin0) g_a3 g_vq ne_a3_vq) (W := 0) rfl (E_a3.keep K103q) (g := (mkF m 128 #[vr a1, vr a2, vr a3, vi 0, vi 1, vu, vu, vu] [(.ref a3)])) rfl hml rfl (argsL := []) (rest := []) (lenOf pd_2 rfl) rfl rfl rfl (hb hby d35_128) rfl
  refine Done.far st123 ?_
  obtain ⟨rfl, N123q, K123q, y123_0, y123_1, y123_2, y123_3, y123_4⟩ := hQ123
  have f124 := (F_a1_value.keep K103q nin0).keep K123q (ni2 ne_a3_a1.symm ne_vq_a1.symm)
  have f125 := (F_a1_intLen.keep K103q nin0).keep K123q (ni2 ne_a3_a1.symm ne_vq_a1.symm)
  have f126 := (F_a1_offset.keep K103q nin0).keep K123q (ni2 ne_a3_a1.symm ne_vq_a1.symm)
  have f127 := (F_a2_value.keep K103q nin0).keep K123q (ni2 ne_a3_a2.symm ne_vq_a2.symm)
  have f128 := (F_a2_intLen.keep K103q nin0).keep K123q (ni2 ne_a3_a2.symm ne_vq_a2.symm)
  have f129 := (F_a2_offset.keep K103q nin0).keep K123q (ni2 ne_a3_a2.symm ne_vq_a2.symm)
  have Kk123 := ((kr h0 [a3, vq]).trans K103q all0).trans K123q (allS (Or.inl me0) (allS (Or.inl me1) all0))
  show Aq T123 131 #[vr a1, vr a2, vr a3, vi 0, vi 1, vu, vu, vu] []
  refine aN X123 hx hby d35_131 rfl rfl ?_
  obtain ⟨T130, X130, e130, st130⟩ := gF X123 hx hZ hown (tw112 hw) rfl f128 (g := (mkF m 132 #[vr a1, vr a2, vr a3, vi 0, vi 1, vu, vu, vu] [(.ref a2)])) rfl rfl (hb hby d35_132)
  refine dS st130 ?_
  show Aq T130 135 #[vr a1, vr a2, vr a3, vi 0, vi 1, vu, vu, vu] [(.int 1)]
  refine iC X130 hx hby d35_135 (z := 1) rfl ?_
  refine cF X130 hx hby d35_136 (teq (by decide)).2 ?_
  refine aN X130 hx hby d35_139 rfl rfl ?_
  refine aN X130 hx hby d35_140 rfl rfl ?_
  obtain ⟨T131, X131, e131, st131⟩ := gF X130 hx hZ hown (tw127 hw) e130 f127 (g := (mkF m 141 #[vr a1, vr a2, vr a3, vi 0, vi 1, vu, vu, vu] [(.ref a2), (.ref a1)])) rfl rfl (hb hby d35_141)
  refine dS st131 ?_
  show Aq T131 144 #[vr a1, vr a2, vr a3, vi 0, vi 1, vu, vu, vu] [(.ref vb), (.ref a1)]
  refine aN X131 hx hby d35_144 rfl rfl ?_
  obtain ⟨T132, X132, e132, st132⟩ := gF X131 hx hZ hown (tw108 hw) e131 f129 (g := (mkF m 145 #[vr a1, vr a2, vr a3, vi 0, vi 1, vu, vu, vu] [(.ref a2), (.ref vb), (.ref a1)])) rfl rfl (hb hby d35_145)
  refine dS st132 ?_
  show Aq T132 148 #[vr a1, vr a2, vr a3, vi 0, vi 1, vu, vu, vu] [(.int 0), (.ref vb), (.ref a1)]
  refine dS (ldI X132 hx hZ e132 ((A_vb.keep K103q nin0).keep K123q (ni2 ne_a3_vb.symm ne_vq_vb.symm)) (j := (0 : Int32)) (x := (.int 1)) (by decide) rfl (g := (mkF m 148 #[vr a1, vr a2, vr a3, vi 0, vi 1, vu, vu, vu] [(.int 0), (.ref vb), (.ref a1)])) rfl rfl (hb hby d35_148)) ?_
  show Aq T132 149 #[vr a1, vr a2, vr a3, vi 0, vi 1, vu, vu, vu] [(.int 1), (.ref a1)]
  refine aN X132 hx hby d35_149 rfl rfl ?_
  obtain ⟨v133, T133, L133, X133, hQ133, st133⟩ := cV X132 hx hZ hown (tw233 hw) (tw234 hw) (tw236 hw) (tw235 hw) (tw102 hw) (tw237 hw) (dow1 l Z a0 hw [] a1 (1 : Int32) a3 va w0 vq T123.heap n0 (lq (lq Z0 K103q.1) K123q.1) rfl ((E_a1.keep K103q).keep K123q) f124 f125 f126 ((A_va.keep K103q nin0).keep K123q (ni2 ne_a3_va.symm ne_vq_va.symm)) y123_0 y123_1 y123_2 y123_3 y123_4 g_a3 g_vq ne_a3_vq ne_a3_a1 ne_a3_va ne_vq_a1 ne_vq_va hw0) (W := 0) e132 ((E_a1.keep K103q).keep K123q) (g := (mkF m 150 #[vr a1, vr a2, vr a3, vi 0, vi 1, vu, vu, vu] [(.ref a3), (.int 1), (.ref a1)])) rfl hml rfl (argsL := [(.int 1), (.ref a3)]) (rest := []) (lenOf pd_13 rfl) rfl rfl rfl (hb hby d35_150) rfl
  refine Done.far st133 ?_
  obtain ⟨rfl, N133q, K133q, y133_0, y133_1, y133_2, y133_3, y133_4⟩ := hQ133
  have f134 := ((A_va.keep K103q nin0).keep K123q (ni2 ne_a3_va.symm ne_vq_va.symm)).keep K133q (ni2 ne_a3_va.symm ne_vq_va.symm)
  have f135 := ((A_vb.keep K103q nin0).keep K123q (ni2 ne_a3_vb.symm ne_vq_vb.symm)).keep K133q (ni2 ne_a3_vb.symm ne_vq_vb.symm)
  show Aq T133 153 #[vr a1, vr a2, vr a3, vi 0, vi 1, vu, vu, vu] [(.int 0)]
  refine sL X133 hx hby d35_153 (l' := #[vr a1, vr a2, vr a3, vi 0, vi 1, vi 0, vu, vu]) rfl ?_
  refine iN X133 hx hby d35_155 rfl ?_
  refine iY X133 hx hby d35_156 (pc' := 182) ((if0 _ _).trans (teq (by decide)).1) (H := ?_)
  refine dS (fun t k => XS.aconstNull X133.here hx rfl (hb hby d35_182) k) ?_
  show Aq T133 183 #[vr a1, vr a2, vr a3, vi 0, vi 1, vi 0, vu, vu] [.null]
  exact Done.ref X133 hx hlk hret rfl rfl rfl (hb hby d35_183) (by decide) (by decide) ⟨rfl, (Fr.app (Fr.app (Fr.app N0 N103q) N123q) N133q), ⟨(Kk123.trans K133q (allS (Or.inl me0) (allS (Or.inl me1) all0))), y133_0, y133_1, y133_2, y133_3, y133_4⟩⟩
theorem mdk2 (l : Launch) (Z : State) (a0 : Array Value) (hw : HH a0 Z) (ws : List Jvm.Cond) (a1 a2 a3 : Addr) (p4 : Int32) (va : Addr) (w0 w1 : Int32) (vb vq : Addr) (h0 : Heap) (n0 : Nat) (Z0 : n0 ≤ h0.size) (hl_p4 : p4 = (0 : Int32)) (E_a1 : Fl3 Z h0 a1) (F_a1_value : Fl0 Z h0 a1 (.ref va)) (F_a1_intLen : Fl1 Z h0 a1 (.int 2)) (F_a1_offset : Fl2 Z h0 a1 (.int 0)) (A_va : Ax Z h0 va .int [(.int w0), (.int w1)]) (E_a2 : Fl3 Z h0 a2) (F_a2_value : Fl0 Z h0 a2 (.ref vb)) (F_a2_intLen : Fl1 Z h0 a2 (.int 1)) (F_a2_offset : Fl2 Z h0 a2 (.int 0)) (A_vb : Ax Z h0 vb .int [(.int 1)]) (E_a3 : Fl3 Z h0 a3) (F_a3_value : Fl0 Z h0 a3 (.ref vq)) (F_a3_intLen : Fl1 Z h0 a3 (.int 0)) (F_a3_offset : Fl2 Z h0 a3 (.int 0)) (A_vq : Ax Z h0 vq .int [(.int 0)]) (g_a3 : n0 ≤ a3) (g_vq : n0 ≤ vq) (ne_a3_vq : a3 ≠ vq) (ne_a3_a1 : a3 ≠ a1) (ne_a3_va : a3 ≠ va) (ne_a3_a2 : a3 ≠ a2) (ne_a3_vb : a3 ≠ vb) (ne_vq_a1 : vq ≠ a1) (ne_vq_va : vq ≠ va) (ne_vq_a2 : vq ≠ a2) (ne_vq_vb : vq ≠ vb) (hw0 : ¬ w0 = (0 : Int32)) : MF l "java/math/MutableBigInteger" "divideKnuth" "(Ljava/math/MutableBigInteger;Ljava/math/MutableBigInteger;Z)Ljava/math/MutableBigInteger;" jdk_2101_method_57_code 8 (some (.object "java/math/MutableBigInteger")) ws ⟨2, 1, 2, 41⟩ Z h0 #[(.ref a1), (.ref a2), (.ref a3), (.int p4)] (fun v h L => ∃ (bv : Addr), v = some .null ∧ Fr n0 L ∧ Keep h0 h [a3, vq] ∧ Fl3 Z h a3 ∧ Fl0 Z h a3 (.ref bv) ∧ Fl1 Z h a3 (.int 2) ∧ Fl2 Z h a3 (.int 0) ∧ Ax Z h bv .int [(.int w0), (.int w1)] ∧ Fl4 Z h bv ∧ h0.size ≤ bv) := by
 refine own_body (n0 := n0) (plainFor_of_name pn_27) (fun m => ef_35 m a1 a2 a3 p4) ?_
 intro p e s m below meth c s₁ hZ hx hby hml hown hlk hret hnm X0 e0 N0
 subst hl_p4
 show Aq s₁ 0 #[vr a1, vr a2, vr a3, vi 0, vu, vu, vu, vu] []
 refine aN X0 hx hby d35_0 rfl rfl ?_
 obtain ⟨T101, X101, e101, st101⟩ := gF X0 hx hZ hown (tw112 hw) e0 F_a2_intLen (g := (mkF m 1 #[vr a1, vr a2, vr a3, vi 0, vu, vu, vu, vu] [(.ref a2)])) rfl rfl (hb hby d35_1)
 refine dS st101 ?_
 show Aq T101 4 #[vr a1, vr a2, vr a3, vi 0, vu, vu, vu, vu] [(.int 1)]
 refine iY X101 hx hby d35_4 (pc' := 17) ((if0 _ _).trans (feq (by decide)).2) (H := ?_)
 refine aN X101 hx hby d35_17 rfl rfl ?_
 obtain ⟨T102, X102, e102, st102⟩ := gF X101 hx hZ hown (tw112 hw) e101 F_a1_intLen (g := (mkF m 18 #[vr a1, vr a2, vr a3, vi 0, vu, vu, vu, vu] [(.ref a1)])) rfl rfl (hb hby d35_18)
 refine dS st102 ?_
 show Aq T102 21 #[vr a1, vr a2, vr a3, vi 0, vu, vu, vu, vu] [(.int 2)]
 refine iY X102 hx hby d35_21 (pc' := 50) ((if0 _ _).trans (feq (by decide)).2) (H := ?_)
 refine aN X102 hx hby d35_50 rfl rfl ?_
 refine aN X102 hx hby d35_51 rfl rfl ?_
 obtain ⟨v103, T103, L103, X103, hQ103, st103⟩ := cV X102 hx hZ hown (tw222 hw) (tw223 hw) (tw225 hw) (tw224 hw) (tw102 hw) (tw226 hw) (cmp21 l Z a0 hw [] a1 a2  h0 n0 Z0 F_a1_intLen F_a2_intLen) (W := 0) e102 E_a1 (g := (mkF m 52 #[vr a1, vr a2, vr a3, vi 0, vu, vu, vu, vu] [(.ref a2), (.ref a1)])) rfl hml rfl (argsL := [(.ref a2)]) (rest := []) (lenOf pd_6 rfl) rfl rfl rfl (hb hby d35_52) rfl
 refine Done.far st103 ?_
 obtain ⟨rfl, N103q, K103q⟩ := hQ103
 show Aq T103 55 #[vr a1, vr a2, vr a3, vi 0, vu, vu, vu, vu] [(.int 1)]
 refine sL X103 hx hby d35_55 (l' := #[vr a1, vr a2, vr a3, vi 0, vi 1, vu, vu, vu]) rfl ?_
 refine iL X103 hx hby d35_57 rfl ?_
 refine iY X103 hx hby d35_59 (pc' := 89) ((if0 _ _).trans (flt (by decide)).2.1) (H := ?_)
 refine iL X103 hx hby d35_89 rfl ?_
 refine iY X103 hx hby d35_91 (pc' := 127) ((if0 _ _).trans (feq (by decide)).2) (H := ?_)
 refine aN X103 hx hby d35_127 rfl rfl ?_
 obtain ⟨v104, T104, L104, X104, hQ104, st104⟩ := cV X103 hx hZ hown (tw228 hw) (tw229 hw) (tw231 hw) (tw230 hw) (tw102 hw) (tw232 hw) (clr l Z a0 hw [] a3 vq (0 : Int32) (0 : Int32) T103.heap n0 (lq Z0 K103q.1) (E_a3.keep K103q) (F_a3_value.keep K103q nin0) (F_a3_intLen.keep K103q nin0) (F_a3_offset.keep K103q nin0) (A_vq.keep K103q nin0) g_a3 g_vq ne_a3_vq) (W := 0) rfl (E_a3.keep K103q) (g := (mkF m 128 #[vr a1, vr a2, vr a3, vi 0, vi 1, vu, vu, vu] [(.ref a3)])) rfl hml rfl (argsL := []) (rest := []) (lenOf pd_2 rfl) rfl rfl rfl (hb hby d35_128) rfl
 refine Done.far st104 ?_
 obtain ⟨rfl, N104q, K104q, y104_0, y104_1, y104_2, y104_3, y104_4⟩ := hQ104
 have f105 := (F_a1_value.keep K103q nin0).keep K104q (ni2 ne_a3_a1.symm ne_vq_a1.symm)
 have f106 := (F_a1_intLen.keep K103q nin0).keep K104q (ni2 ne_a3_a1.symm ne_vq_a1.symm)
 have f107 := (F_a1_offset.keep K103q nin0).keep K104q (ni2 ne_a3_a1.symm ne_vq_a1.symm)
 have f108 := (F_a2_value.keep K103q nin0).keep K104q (ni2 ne_a3_a2.symm ne_vq_a2.symm)
 have f109 := (F_a2_intLen.keep K103q nin0).keep K104q (ni2 ne_a3_a2.symm ne_vq_a2.symm)
 have f110 := (F_a2_offset.keep K103q nin0).keep K104q (ni2 ne_a3_a2.symm ne_vq_a2.symm)
 have Kk104 := ((kr h0 [a3, vq]).trans K103q all0).trans K104q (allS (Or.inl me0) (allS (Or.inl me1) all0))
 show Aq T104 131 #[vr a1, vr a2, vr a3, vi 0, vi 1, vu, vu, vu] []
 refine aN X104 hx hby d35_131 rfl rfl ?_
 obtain ⟨T111, X111, e111, st111⟩ := gF X104 hx hZ hown (tw112 hw) rfl f109 (g := (mkF m 132 #[vr a1, vr a2, vr a3, vi 0, vi 1, vu, vu, vu] [(.ref a2)])) rfl rfl (hb hby d35_132)
 refine dS st111 ?_
 show Aq T111 135 #[vr a1, vr a2, vr a3, vi 0, vi 1, vu, vu, vu] [(.int 1)]
 refine iC X111 hx hby d35_135 (z := 1) rfl ?_
 refine cF X111 hx hby d35_136 (teq (by decide)).2 ?_
 refine aN X111 hx hby d35_139 rfl rfl ?_
 refine aN X111 hx hby d35_140 rfl rfl ?_
 obtain ⟨T112, X112, e112, st112⟩ := gF X111 hx hZ hown (tw127 hw) e111 f108 (g := (mkF m 141 #[vr a1, vr a2, vr a3, vi 0, vi 1, vu, vu, vu] [(.ref a2), (.ref a1)])) rfl rfl (hb hby d35_141)
 refine dS st112 ?_
 show Aq T112 144 #[vr a1, vr a2, vr a3, vi 0, vi 1, vu, vu, vu] [(.ref vb), (.ref a1)]
 refine aN X112 hx hby d35_144 rfl rfl ?_
 obtain ⟨T113, X113, e113, st113⟩ := gF X112 hx hZ hown (tw108 hw) e112 f110 (g := (mkF m 145 #[vr a1, vr a2, vr a3, vi 0, vi 1, vu, vu, vu] [(.ref a2), (.ref vb), (.ref a1)])) rfl rfl (hb hby d35_145)
 refine dS st113 ?_
 show Aq T113 148 #[vr a1, vr a2, vr a3, vi 0, vi 1, vu, vu, vu] [(.int 0), (.ref vb), (.ref a1)]
 refine dS (ldI X113 hx hZ e113 ((A_vb.keep K103q nin0).keep K104q (ni2 ne_a3_vb.symm ne_vq_vb.symm)) (j := (0 : Int32)) (x := (.int 1)) (by decide) rfl (g := (mkF m 148 #[vr a1, vr a2, vr a3, vi 0, vi 1, vu, vu, vu] [(.int 0), (.ref vb), (.ref a1)])) rfl rfl (hb hby d35_148)) ?_
 show Aq T113 149 #[vr a1, vr a2, vr a3, vi 0, vi 1, vu, vu, vu] [(.int 1), (.ref a1)]
 refine aN X113 hx hby d35_149 rfl rfl ?_
 obtain ⟨v114, T114, L114, X114, hQ114, st114⟩ := cV X113 hx hZ hown (tw233 hw) (tw234 hw) (tw236 hw) (tw235 hw) (tw102 hw) (tw237 hw) (dow2 l Z a0 hw [] a1 (1 : Int32) a3 va w0 w1 vq T104.heap n0 (lq (lq Z0 K103q.1) K104q.1) rfl ((E_a1.keep K103q).keep K104q) f105 f106 f107 ((A_va.keep K103q nin0).keep K104q (ni2 ne_a3_va.symm ne_vq_va.symm)) y104_0 y104_1 y104_2 y104_3 y104_4 g_a3 g_vq ne_a3_vq ne_a3_a1 ne_a3_va ne_vq_a1 ne_vq_va hw0) (W := 0) e113 ((E_a1.keep K103q).keep K104q) (g := (mkF m 150 #[vr a1, vr a2, vr a3, vi 0, vi 1, vu, vu, vu] [(.ref a3), (.int 1), (.ref a1)])) rfl hml rfl (argsL := [(.int 1), (.ref a3)]) (rest := []) (lenOf pd_13 rfl) rfl rfl rfl (hb hby d35_150) rfl
 refine Done.far st114 ?_
 obtain ⟨bv_114, rfl, N114q, K114q, y114_0, y114_1, y114_2, y114_3, y114_4, y114_5, z114_6⟩ := hQ114
 have sz_bv_114 := lq Kk104.1 z114_6
 have f115 := ((A_va.keep K103q nin0).keep K104q (ni2 ne_a3_va.symm ne_vq_va.symm)).keep K114q (ni2 ne_a3_va.symm ne_vq_va.symm)
 have f116 := ((A_vb.keep K103q nin0).keep K104q (ni2 ne_a3_vb.symm ne_vq_vb.symm)).keep K114q (ni2 ne_a3_vb.symm ne_vq_vb.symm)
 show Aq T114 153 #[vr a1, vr a2, vr a3, vi 0, vi 1, vu, vu, vu] [(.int 0)]
 refine sL X114 hx hby d35_153 (l' := #[vr a1, vr a2, vr a3, vi 0, vi 1, vi 0, vu, vu]) rfl ?_
 refine iN X114 hx hby d35_155 rfl ?_
 refine iY X114 hx hby d35_156 (pc' := 182) ((if0 _ _).trans (teq (by decide)).1) (H := ?_)
 refine dS (fun t k => XS.aconstNull X114.here hx rfl (hb hby d35_182) k) ?_
 show Aq T114 183 #[vr a1, vr a2, vr a3, vi 0, vi 1, vi 0, vu, vu] [.null]
 exact Done.ref X114 hx hlk hret rfl rfl rfl (hb hby d35_183) (by decide) (by decide) ⟨bv_114, rfl, (Fr.app (Fr.app (Fr.app N0 N103q) N104q) N114q), ⟨(Kk104.trans K114q (allS (Or.inl me0) (allS (Or.inl me1) all0))), y114_0, y114_1, y114_2, y114_3, y114_4, y114_5, sz_bv_114⟩⟩
def BIG (Z : State) (h : Heap) (b mg : Addr) (sg : Int32) (ml : List Int32) : Prop := Exa Z h b "java/math/BigInteger" ∧ Fld Z h b "java/math/BigInteger" "signum" "I" (.int sg) ∧ Fld Z h b "java/math/BigInteger" "mag" "[I" (.ref mg) ∧ Exa Z h mg "[I" ∧ Ax Z h mg .int (ml.map Value.int)
theorem BIG.keep {Z : State} {h h' : Heap} {b mg : Addr} {sg : Int32} {ml : List Int32} (B : BIG Z h b mg sg ml) (K : Keep h h' []) : BIG Z h' b mg sg ml := ⟨B.1.keep K, B.2.1.keep K nin0, B.2.2.1.keep K nin0, B.2.2.2.1.keep K, B.2.2.2.2.keep K nin0⟩
def Cst (Z : State) (h : Heap) (f : String) (sg : Int32) : Prop := ∃ (a : Addr) (cl : Cell), Sta Z h "java/math/BigInteger" f "[Ljava/math/BigInteger;" (.ref a) ∧ Arr Z h a cl (.object "java/math/BigInteger") ∧ ∀ i : Nat, 1 ≤ i → i ≤ 16 → ∃ b mg : Addr, cl.slots[i]? = some (.ref b) ∧ BIG Z h b mg sg [Int32.ofNat i]
def Bst (Z : State) (h : Heap) (f : String) (sg : Int32) (ml : List Int32) : Prop := ∃ b mg : Addr, Sta Z h "java/math/BigInteger" f "Ljava/math/BigInteger;" (.ref b) ∧ BIG Z h b mg sg ml
def Stat (Z : State) (h : Heap) : Prop := Bst Z h "ZERO" 0 [] ∧ Bst Z h "ONE" 1 [1] ∧ Cst Z h "posConst" 1 ∧ Cst Z h "negConst" (-1)
theorem Bst.keep {Z : State} {h h' : Heap} {f : String} {sg : Int32} {ml : List Int32} (B : Bst Z h f sg ml) (K : Keep h h' []) : Bst Z h' f sg ml := by
 obtain ⟨b, mg, S, B⟩ := B
 exact ⟨b, mg, own_stakeep S K all0, B.keep K⟩
theorem Cst.keep {Z : State} {h h' : Heap} {f : String} {sg : Int32} (B : Cst Z h f sg) (K : Keep h h' []) : Cst Z h' f sg := by
 obtain ⟨a, cl, S, A, E⟩ := B
 refine ⟨a, cl, own_stakeep S K all0, ⟨K.2.1 a cl A.1 nin0, A.2⟩, fun i h1 h2 => ?_⟩
 obtain ⟨b, mg, e, B⟩ := E i h1 h2
 exact ⟨b, mg, e, B.keep K⟩
theorem ldA {p : Program} {l : Launch} {e : Env} {R : Room} {s : State} {m : MethodId} {args : Array Value} {below : List Frame} {meth : Method} {c : Code} {T : State} {locs : List Loc} {cells slots : Nat} {Z : State} {h : Heap} {a : Addr} {ty : FieldType} {cl : Cell} {x : Value} {j : Int32} {g : JFrame} {rest : List Value}
  (X : Stand p l e R s m args below meth c T locs cells slots) (hx : p.tables.exec = Jvm.exec) (hZ : Z.Warmed39 s.vm) (eT : T.heap = h) (A : Arr Z h a cl ty) (hty : ty.isReference = true) (hj : ¬ j < 0) (hat : cl.slots[j.toNatClampNeg]? = some x) (hg : g.method = m) (hs : g.stack = .int j :: .ref a :: rest) (hd : decode c.code g.pc = .ok (.aaload, 1)) :
  ∀ target, Steps p.tables e below (T.setTop { g with pc := g.pc + 1, stack := x :: rest }) target → Steps p.tables e below (T.setTop g) target :=
 X.aaload hx (by rw [eT]; exact A.1) (State.isArrayOf_alike hZ.alike A.2.1) hty A.2.2 (fun q => q.elim hj fun u => absurd (Array.getElem?_eq_some_iff.mp hat).1 (Nat.not_lt.mpr u)) hat hg hs hd
theorem own_alen {args : Array Value} {s : State} {t : Term} {n : Int32} {x : Addr} {cl : Cell} (h : (Term.length t).eval args s none [] s = some (.int n)) (ht : t.eval args s none [] s = some (.ref x)) (ha : s.arrayAt? x = some cl) : cl.slots.size = n.toNatClampNeg := by
 simp [Term.eval, ht, ha] at h
 obtain ⟨h1, h2⟩ := h
 rw [← h2]
 have q : (cl.slots.size.toInt32).toInt = (cl.slots.size : Int) := Int32.toInt_ofNat_of_lt h1
 show _ = ((cl.slots.size.toInt32).toInt).toNat
 rw [q]; rfl
theorem own_sz1 {xs : Array Value} {x : Value} (h : xs.size = 1) (h0 : xs[0]? = some x) : xs = [x].toArray := by
 obtain ⟨l⟩ := xs
 match l, h with
 | [y], _ => simp at h0; rw [h0]
theorem own_bigw {args : Array Value} {Z : State} {t : Term} {sg k : Int32} {b : Addr} (ev : t.eval args Z none [] Z = some (.ref b)) (w1 : (Cond.exactly t "java/math/BigInteger").before args Z = true) (w2 : (Cond.eq (.field t "java/math/BigInteger" "signum" "I") (.int sg)).before args Z = true) (w3 : (Cond.arrayOf (.field t "java/math/BigInteger" "mag" "[I") .int).before args Z = true) (w4 : (Cond.exactly (.field t "java/math/BigInteger" "mag" "[I") "[I").before args Z = true) (w5 : (Cond.eq (.length (.field t "java/math/BigInteger" "mag" "[I")) (.int 1)).before args Z = true) (w6 : (Cond.eq (.elem (.field t "java/math/BigInteger" "mag" "[I") (.int 0)) (.int k)).before args Z = true) : ∃ mg, BIG Z Z.heap b mg sg [k] := by
 obtain ⟨m, em⟩ := exa_v (Cond.before_iff.mp w4)
 obtain ⟨cl, A⟩ := Arr.start em (Cond.before_iff.mp w3)
 have aa := A.fin (Vm.Alike.refl _)
 have hl := own_alen (Cond.eq_int w5 rfl) em aa
 have he := Cond.eq_int w6 rfl
 rw [elem_f em rfl aa (by decide)] at he
 refine ⟨m, Exa.start ev (Cond.before_iff.mp w1), fld_int (Cond.before_iff.mp w2) ev, Fld.start (by rw [← fld_at ev]; exact em), Exa.start em (Cond.before_iff.mp w4), cl, A, ?_⟩
 exact own_sz1 hl he
theorem own_bigz {args : Array Value} {Z : State} {t : Term} {sg : Int32} {b : Addr} (ev : t.eval args Z none [] Z = some (.ref b)) (w1 : (Cond.exactly t "java/math/BigInteger").before args Z = true) (w2 : (Cond.eq (.field t "java/math/BigInteger" "signum" "I") (.int sg)).before args Z = true) (w3 : (Cond.arrayOf (.field t "java/math/BigInteger" "mag" "[I") .int).before args Z = true) (w4 : (Cond.exactly (.field t "java/math/BigInteger" "mag" "[I") "[I").before args Z = true) (w5 : (Cond.eq (.length (.field t "java/math/BigInteger" "mag" "[I")) (.int 0)).before args Z = true) : ∃ mg, BIG Z Z.heap b mg sg [] := by
 obtain ⟨m, em⟩ := exa_v (Cond.before_iff.mp w4)
 obtain ⟨cl, A⟩ := Arr.start em (Cond.before_iff.mp w3)
 have aa := A.fin (Vm.Alike.refl _)
 have hl := own_alen (Cond.eq_int w5 rfl) em aa
 refine ⟨m, Exa.start ev (Cond.before_iff.mp w1), fld_int (Cond.before_iff.mp w2) ev, Fld.start (by rw [← fld_at ev]; exact em), Exa.start em (Cond.before_iff.mp w4), cl, A, ?_⟩
 exact Array.eq_empty_of_size_eq_zero hl
theorem own_el {args : Array Value} {Z : State} {t : Term} {sg k j : Int32} {a : Addr} {cl : Cell} {i : Nat} (ev : t.eval args Z none [] Z = some (.ref a)) (A : Arr Z Z.heap a cl (.object "java/math/BigInteger")) (hj : ¬ j < 0) (hi : j.toNatClampNeg = i) (w1 : (Cond.exactly (.elem t (.int j)) "java/math/BigInteger").before args Z = true) (w2 : (Cond.eq (.field (.elem t (.int j)) "java/math/BigInteger" "signum" "I") (.int sg)).before args Z = true) (w3 : (Cond.arrayOf (.field (.elem t (.int j)) "java/math/BigInteger" "mag" "[I") .int).before args Z = true) (w4 : (Cond.exactly (.field (.elem t (.int j)) "java/math/BigInteger" "mag" "[I") "[I").before args Z = true) (w5 : (Cond.eq (.length (.field (.elem t (.int j)) "java/math/BigInteger" "mag" "[I")) (.int 1)).before args Z = true) (w6 : (Cond.eq (.elem (.field (.elem t (.int j)) "java/math/BigInteger" "mag" "[I") (.int 0)) (.int k)).before args Z = true) : ∃ b mg : Addr, cl.slots[i]? = some (.ref b) ∧ BIG Z Z.heap b mg sg [k] := by
 obtain ⟨b, eb⟩ := exa_v (Cond.before_iff.mp w1)
 obtain ⟨mg, B⟩ := own_bigw eb w1 w2 w3 w4 w5 w6
 rw [elem_f ev rfl (A.fin (Vm.Alike.refl _)) hj, hi] at eb
 exact ⟨b, mg, eb, B⟩
set_option maxHeartbeats 4000000 in
theorem own_stat {args : Array Value} {Z : State} (hsets : ∀ w ∈ jdkStatics_1, w.before args Z = true) : Stat Z Z.heap := by
 refine ⟨?_, ?_, ?_, ?_⟩
 ·obtain ⟨b, eb⟩ := exa_v (Cond.before_iff.mp (hsets _ (List.mem_of_getElem? (i := 224) rfl)))
  obtain ⟨mg, B⟩ := own_bigz eb (hsets _ (List.mem_of_getElem? (i := 224) rfl)) (hsets _ (List.mem_of_getElem? (i := 225) rfl)) (hsets _ (List.mem_of_getElem? (i := 226) rfl)) (hsets _ (List.mem_of_getElem? (i := 227) rfl)) (hsets _ (List.mem_of_getElem? (i := 228) rfl))
  exact ⟨b, mg, Sta.start eb (Or.inl (hsets _ (List.mem_of_getElem? (i := 223) rfl))), B⟩
 ·obtain ⟨b, eb⟩ := exa_v (Cond.before_iff.mp (hsets _ (List.mem_of_getElem? (i := 112) rfl)))
  obtain ⟨mg, B⟩ := own_bigw eb (hsets _ (List.mem_of_getElem? (i := 112) rfl)) (hsets _ (List.mem_of_getElem? (i := 113) rfl)) (hsets _ (List.mem_of_getElem? (i := 114) rfl)) (hsets _ (List.mem_of_getElem? (i := 115) rfl)) (hsets _ (List.mem_of_getElem? (i := 116) rfl)) (hsets _ (List.mem_of_getElem? (i := 117) rfl))
  exact ⟨b, mg, Sta.start eb (Or.inl (hsets _ (List.mem_of_getElem? (i := 3) rfl))), B⟩
 ·obtain ⟨a, ea⟩ := exa_v (Cond.before_iff.mp (hsets _ (List.mem_of_getElem? (i := 9) rfl)))
  obtain ⟨cl, A⟩ := Arr.start ea (Cond.before_iff.mp (hsets _ (List.mem_of_getElem? (i := 8) rfl)))
  refine ⟨a, cl, Sta.start ea (Or.inl (hsets _ (List.mem_of_getElem? (i := 1) rfl))), A, fun i h1 h2 => ?_⟩
  obtain rfl | rfl | rfl | rfl | rfl | rfl | rfl | rfl | rfl | rfl | rfl | rfl | rfl | rfl | rfl | rfl : i = 1 ∨ i = 2 ∨ i = 3 ∨ i = 4 ∨ i = 5 ∨ i = 6 ∨ i = 7 ∨ i = 8 ∨ i = 9 ∨ i = 10 ∨ i = 11 ∨ i = 12 ∨ i = 13 ∨ i = 14 ∨ i = 15 ∨ i = 16 := by omega
  ·exact own_el ea A (by decide) (by decide) (hsets _ (List.mem_of_getElem? (i := 12) rfl)) (hsets _ (List.mem_of_getElem? (i := 13) rfl)) (hsets _ (List.mem_of_getElem? (i := 14) rfl)) (hsets _ (List.mem_of_getElem? (i := 15) rfl)) (hsets _ (List.mem_of_getElem? (i := 16) rfl)) (hsets _ (List.mem_of_getElem? (i := 17) rfl))
  ·exact own_el ea A (by decide) (by decide) (hsets _ (List.mem_of_getElem? (i := 19) rfl)) (hsets _ (List.mem_of_getElem? (i := 20) rfl)) (hsets _ (List.mem_of_getElem? (i := 21) rfl)) (hsets _ (List.mem_of_getElem? (i := 22) rfl)) (hsets _ (List.mem_of_getElem? (i := 23) rfl)) (hsets _ (List.mem_of_getElem? (i := 24) rfl))
  ·exact own_el ea A (by decide) (by decide) (hsets _ (List.mem_of_getElem? (i := 25) rfl)) (hsets _ (List.mem_of_getElem? (i := 26) rfl)) (hsets _ (List.mem_of_getElem? (i := 27) rfl)) (hsets _ (List.mem_of_getElem? (i := 28) rfl)) (hsets _ (List.mem_of_getElem? (i := 29) rfl)) (hsets _ (List.mem_of_getElem? (i := 30) rfl))
  ·exact own_el ea A (by decide) (by decide) (hsets _ (List.mem_of_getElem? (i := 31) rfl)) (hsets _ (List.mem_of_getElem? (i := 32) rfl)) (hsets _ (List.mem_of_getElem? (i := 33) rfl)) (hsets _ (List.mem_of_getElem? (i := 34) rfl)) (hsets _ (List.mem_of_getElem? (i := 35) rfl)) (hsets _ (List.mem_of_getElem? (i := 36) rfl))
  ·exact own_el ea A (by decide) (by decide) (hsets _ (List.mem_of_getElem? (i := 37) rfl)) (hsets _ (List.mem_of_getElem? (i := 38) rfl)) (hsets _ (List.mem_of_getElem? (i := 39) rfl)) (hsets _ (List.mem_of_getElem? (i := 40) rfl)) (hsets _ (List.mem_of_getElem? (i := 41) rfl)) (hsets _ (List.mem_of_getElem? (i := 42) rfl))
  ·exact own_el ea A (by decide) (by decide) (hsets _ (List.mem_of_getElem? (i := 43) rfl)) (hsets _ (List.mem_of_getElem? (i := 44) rfl)) (hsets _ (List.mem_of_getElem? (i := 45) rfl)) (hsets _ (List.mem_of_getElem? (i := 46) rfl)) (hsets _ (List.mem_of_getElem? (i := 47) rfl)) (hsets _ (List.mem_of_getElem? (i := 48) rfl))
  ·exact own_el ea A (by decide) (by decide) (hsets _ (List.mem_of_getElem? (i := 49) rfl)) (hsets _ (List.mem_of_getElem? (i := 50) rfl)) (hsets _ (List.mem_of_getElem? (i := 51) rfl)) (hsets _ (List.mem_of_getElem? (i := 52) rfl)) (hsets _ (List.mem_of_getElem? (i := 53) rfl)) (hsets _ (List.mem_of_getElem? (i := 54) rfl))
  ·exact own_el ea A (by decide) (by decide) (hsets _ (List.mem_of_getElem? (i := 55) rfl)) (hsets _ (List.mem_of_getElem? (i := 56) rfl)) (hsets _ (List.mem_of_getElem? (i := 57) rfl)) (hsets _ (List.mem_of_getElem? (i := 58) rfl)) (hsets _ (List.mem_of_getElem? (i := 59) rfl)) (hsets _ (List.mem_of_getElem? (i := 60) rfl))
  ·exact own_el ea A (by decide) (by decide) (hsets _ (List.mem_of_getElem? (i := 61) rfl)) (hsets _ (List.mem_of_getElem? (i := 62) rfl)) (hsets _ (List.mem_of_getElem? (i := 63) rfl)) (hsets _ (List.mem_of_getElem? (i := 64) rfl)) (hsets _ (List.mem_of_getElem? (i := 65) rfl)) (hsets _ (List.mem_of_getElem? (i := 66) rfl))
  ·exact own_el ea A (by decide) (by decide) (hsets _ (List.mem_of_getElem? (i := 68) rfl)) (hsets _ (List.mem_of_getElem? (i := 69) rfl)) (hsets _ (List.mem_of_getElem? (i := 70) rfl)) (hsets _ (List.mem_of_getElem? (i := 71) rfl)) (hsets _ (List.mem_of_getElem? (i := 72) rfl)) (hsets _ (List.mem_of_getElem? (i := 73) rfl))
  ·exact own_el ea A (by decide) (by decide) (hsets _ (List.mem_of_getElem? (i := 74) rfl)) (hsets _ (List.mem_of_getElem? (i := 75) rfl)) (hsets _ (List.mem_of_getElem? (i := 76) rfl)) (hsets _ (List.mem_of_getElem? (i := 77) rfl)) (hsets _ (List.mem_of_getElem? (i := 78) rfl)) (hsets _ (List.mem_of_getElem? (i := 79) rfl))
  ·exact own_el ea A (by decide) (by decide) (hsets _ (List.mem_of_getElem? (i := 80) rfl)) (hsets _ (List.mem_of_getElem? (i := 81) rfl)) (hsets _ (List.mem_of_getElem? (i := 82) rfl)) (hsets _ (List.mem_of_getElem? (i := 83) rfl)) (hsets _ (List.mem_of_getElem? (i := 84) rfl)) (hsets _ (List.mem_of_getElem? (i := 85) rfl))
  ·exact own_el ea A (by decide) (by decide) (hsets _ (List.mem_of_getElem? (i := 86) rfl)) (hsets _ (List.mem_of_getElem? (i := 87) rfl)) (hsets _ (List.mem_of_getElem? (i := 88) rfl)) (hsets _ (List.mem_of_getElem? (i := 89) rfl)) (hsets _ (List.mem_of_getElem? (i := 90) rfl)) (hsets _ (List.mem_of_getElem? (i := 91) rfl))
  ·exact own_el ea A (by decide) (by decide) (hsets _ (List.mem_of_getElem? (i := 92) rfl)) (hsets _ (List.mem_of_getElem? (i := 93) rfl)) (hsets _ (List.mem_of_getElem? (i := 94) rfl)) (hsets _ (List.mem_of_getElem? (i := 95) rfl)) (hsets _ (List.mem_of_getElem? (i := 96) rfl)) (hsets _ (List.mem_of_getElem? (i := 97) rfl))
  ·exact own_el ea A (by decide) (by decide) (hsets _ (List.mem_of_getElem? (i := 98) rfl)) (hsets _ (List.mem_of_getElem? (i := 99) rfl)) (hsets _ (List.mem_of_getElem? (i := 100) rfl)) (hsets _ (List.mem_of_getElem? (i := 101) rfl)) (hsets _ (List.mem_of_getElem? (i := 102) rfl)) (hsets _ (List.mem_of_getElem? (i := 103) rfl))
  ·exact own_el ea A (by decide) (by decide) (hsets _ (List.mem_of_getElem? (i := 104) rfl)) (hsets _ (List.mem_of_getElem? (i := 105) rfl)) (hsets _ (List.mem_of_getElem? (i := 106) rfl)) (hsets _ (List.mem_of_getElem? (i := 107) rfl)) (hsets _ (List.mem_of_getElem? (i := 108) rfl)) (hsets _ (List.mem_of_getElem? (i := 109) rfl))
 ·obtain ⟨a, ea⟩ := exa_v (Cond.before_iff.mp (hsets _ (List.mem_of_getElem? (i := 123) rfl)))
  obtain ⟨cl, A⟩ := Arr.start ea (Cond.before_iff.mp (hsets _ (List.mem_of_getElem? (i := 122) rfl)))
  refine ⟨a, cl, Sta.start ea (Or.inl (hsets _ (List.mem_of_getElem? (i := 119) rfl))), A, fun i h1 h2 => ?_⟩
  obtain rfl | rfl | rfl | rfl | rfl | rfl | rfl | rfl | rfl | rfl | rfl | rfl | rfl | rfl | rfl | rfl : i = 1 ∨ i = 2 ∨ i = 3 ∨ i = 4 ∨ i = 5 ∨ i = 6 ∨ i = 7 ∨ i = 8 ∨ i = 9 ∨ i = 10 ∨ i = 11 ∨ i = 12 ∨ i = 13 ∨ i = 14 ∨ i = 15 ∨ i = 16 := by omega
  ·exact own_el ea A (by decide) (by decide) (hsets _ (List.mem_of_getElem? (i := 126) rfl)) (hsets _ (List.mem_of_getElem? (i := 127) rfl)) (hsets _ (List.mem_of_getElem? (i := 128) rfl)) (hsets _ (List.mem_of_getElem? (i := 129) rfl)) (hsets _ (List.mem_of_getElem? (i := 130) rfl)) (hsets _ (List.mem_of_getElem? (i := 131) rfl))
  ·exact own_el ea A (by decide) (by decide) (hsets _ (List.mem_of_getElem? (i := 132) rfl)) (hsets _ (List.mem_of_getElem? (i := 133) rfl)) (hsets _ (List.mem_of_getElem? (i := 134) rfl)) (hsets _ (List.mem_of_getElem? (i := 135) rfl)) (hsets _ (List.mem_of_getElem? (i := 136) rfl)) (hsets _ (List.mem_of_getElem? (i := 137) rfl))
  ·exact own_el ea A (by decide) (by decide) (hsets _ (List.mem_of_getElem? (i := 138) rfl)) (hsets _ (List.mem_of_getElem? (i := 139) rfl)) (hsets _ (List.mem_of_getElem? (i := 140) rfl)) (hsets _ (List.mem_of_getElem? (i := 141) rfl)) (hsets _ (List.mem_of_getElem? (i := 142) rfl)) (hsets _ (List.mem_of_getElem? (i := 143) rfl))
  ·exact own_el ea A (by decide) (by decide) (hsets _ (List.mem_of_getElem? (i := 144) rfl)) (hsets _ (List.mem_of_getElem? (i := 145) rfl)) (hsets _ (List.mem_of_getElem? (i := 146) rfl)) (hsets _ (List.mem_of_getElem? (i := 147) rfl)) (hsets _ (List.mem_of_getElem? (i := 148) rfl)) (hsets _ (List.mem_of_getElem? (i := 149) rfl))
  ·exact own_el ea A (by decide) (by decide) (hsets _ (List.mem_of_getElem? (i := 150) rfl)) (hsets _ (List.mem_of_getElem? (i := 151) rfl)) (hsets _ (List.mem_of_getElem? (i := 152) rfl)) (hsets _ (List.mem_of_getElem? (i := 153) rfl)) (hsets _ (List.mem_of_getElem? (i := 154) rfl)) (hsets _ (List.mem_of_getElem? (i := 155) rfl))
  ·exact own_el ea A (by decide) (by decide) (hsets _ (List.mem_of_getElem? (i := 156) rfl)) (hsets _ (List.mem_of_getElem? (i := 157) rfl)) (hsets _ (List.mem_of_getElem? (i := 158) rfl)) (hsets _ (List.mem_of_getElem? (i := 159) rfl)) (hsets _ (List.mem_of_getElem? (i := 160) rfl)) (hsets _ (List.mem_of_getElem? (i := 161) rfl))
  ·exact own_el ea A (by decide) (by decide) (hsets _ (List.mem_of_getElem? (i := 162) rfl)) (hsets _ (List.mem_of_getElem? (i := 163) rfl)) (hsets _ (List.mem_of_getElem? (i := 164) rfl)) (hsets _ (List.mem_of_getElem? (i := 165) rfl)) (hsets _ (List.mem_of_getElem? (i := 166) rfl)) (hsets _ (List.mem_of_getElem? (i := 167) rfl))
  ·exact own_el ea A (by decide) (by decide) (hsets _ (List.mem_of_getElem? (i := 168) rfl)) (hsets _ (List.mem_of_getElem? (i := 169) rfl)) (hsets _ (List.mem_of_getElem? (i := 170) rfl)) (hsets _ (List.mem_of_getElem? (i := 171) rfl)) (hsets _ (List.mem_of_getElem? (i := 172) rfl)) (hsets _ (List.mem_of_getElem? (i := 173) rfl))
  ·exact own_el ea A (by decide) (by decide) (hsets _ (List.mem_of_getElem? (i := 174) rfl)) (hsets _ (List.mem_of_getElem? (i := 175) rfl)) (hsets _ (List.mem_of_getElem? (i := 176) rfl)) (hsets _ (List.mem_of_getElem? (i := 177) rfl)) (hsets _ (List.mem_of_getElem? (i := 178) rfl)) (hsets _ (List.mem_of_getElem? (i := 179) rfl))
  ·exact own_el ea A (by decide) (by decide) (hsets _ (List.mem_of_getElem? (i := 180) rfl)) (hsets _ (List.mem_of_getElem? (i := 181) rfl)) (hsets _ (List.mem_of_getElem? (i := 182) rfl)) (hsets _ (List.mem_of_getElem? (i := 183) rfl)) (hsets _ (List.mem_of_getElem? (i := 184) rfl)) (hsets _ (List.mem_of_getElem? (i := 185) rfl))
  ·exact own_el ea A (by decide) (by decide) (hsets _ (List.mem_of_getElem? (i := 186) rfl)) (hsets _ (List.mem_of_getElem? (i := 187) rfl)) (hsets _ (List.mem_of_getElem? (i := 188) rfl)) (hsets _ (List.mem_of_getElem? (i := 189) rfl)) (hsets _ (List.mem_of_getElem? (i := 190) rfl)) (hsets _ (List.mem_of_getElem? (i := 191) rfl))
  ·exact own_el ea A (by decide) (by decide) (hsets _ (List.mem_of_getElem? (i := 192) rfl)) (hsets _ (List.mem_of_getElem? (i := 193) rfl)) (hsets _ (List.mem_of_getElem? (i := 194) rfl)) (hsets _ (List.mem_of_getElem? (i := 195) rfl)) (hsets _ (List.mem_of_getElem? (i := 196) rfl)) (hsets _ (List.mem_of_getElem? (i := 197) rfl))
  ·exact own_el ea A (by decide) (by decide) (hsets _ (List.mem_of_getElem? (i := 198) rfl)) (hsets _ (List.mem_of_getElem? (i := 199) rfl)) (hsets _ (List.mem_of_getElem? (i := 200) rfl)) (hsets _ (List.mem_of_getElem? (i := 201) rfl)) (hsets _ (List.mem_of_getElem? (i := 202) rfl)) (hsets _ (List.mem_of_getElem? (i := 203) rfl))
  ·exact own_el ea A (by decide) (by decide) (hsets _ (List.mem_of_getElem? (i := 204) rfl)) (hsets _ (List.mem_of_getElem? (i := 205) rfl)) (hsets _ (List.mem_of_getElem? (i := 206) rfl)) (hsets _ (List.mem_of_getElem? (i := 207) rfl)) (hsets _ (List.mem_of_getElem? (i := 208) rfl)) (hsets _ (List.mem_of_getElem? (i := 209) rfl))
  ·exact own_el ea A (by decide) (by decide) (hsets _ (List.mem_of_getElem? (i := 210) rfl)) (hsets _ (List.mem_of_getElem? (i := 211) rfl)) (hsets _ (List.mem_of_getElem? (i := 212) rfl)) (hsets _ (List.mem_of_getElem? (i := 213) rfl)) (hsets _ (List.mem_of_getElem? (i := 214) rfl)) (hsets _ (List.mem_of_getElem? (i := 215) rfl))
  ·exact own_el ea A (by decide) (by decide) (hsets _ (List.mem_of_getElem? (i := 216) rfl)) (hsets _ (List.mem_of_getElem? (i := 217) rfl)) (hsets _ (List.mem_of_getElem? (i := 218) rfl)) (hsets _ (List.mem_of_getElem? (i := 219) rfl)) (hsets _ (List.mem_of_getElem? (i := 220) rfl)) (hsets _ (List.mem_of_getElem? (i := 221) rfl))
def HI (a : Int64) : Int32 := (((a.toUInt64 >>> ((32 : Int32) &&& 0x3f).toInt64.toUInt64).toInt64)).toInt32
def MA (a : Int64) : List Int32 := if HI a = (0 : Int32) then [(a).toInt32] else [HI a, (a).toInt32]
def SG (q : Int64) : Int32 := if q = (0 : Int64) then 0 else if q < (0 : Int64) then -1 else 1
def ML (q : Int64) : List Int32 := if q = (0 : Int64) then [] else if q < (0 : Int64) then MA (-q) else MA q
theorem own_sg0 {q : Int64} (h : q = (0 : Int64)) : SG q = 0 := by unfold SG; rw [if_pos h]
theorem own_ml0 {q : Int64} (h : q = (0 : Int64)) : ML q = [] := by unfold ML; rw [if_pos h]
theorem own_sgn {q : Int64} (h0 : ¬ q = (0 : Int64)) (h : q < (0 : Int64)) : SG q = -1 := by unfold SG; rw [if_neg h0, if_pos h]
theorem own_sgp {q : Int64} (h0 : ¬ q = (0 : Int64)) (h : ¬ q < (0 : Int64)) : SG q = 1 := by unfold SG; rw [if_neg h0, if_neg h]
theorem own_mln {q : Int64} (h0 : ¬ q = (0 : Int64)) (h : q < (0 : Int64)) : ML q = MA (-q) := by unfold ML; rw [if_neg h0, if_pos h]
theorem own_mlp {q : Int64} (h0 : ¬ q = (0 : Int64)) (h : ¬ q < (0 : Int64)) : ML q = MA q := by unfold ML; rw [if_neg h0, if_neg h]
theorem own_ma1 {a : Int64} (h : HI a = (0 : Int32)) : MA a = [(a).toInt32] := by unfold MA; rw [if_pos h]
theorem own_ma2 {a : Int64} (h : ¬ HI a = (0 : Int32)) : MA a = [HI a, (a).toInt32] := by unfold MA; rw [if_neg h]
theorem own_hilo {a : Int64} (h : HI a = (0 : Int32)) (h0 : ¬ a = (0 : Int64)) : ¬ (a).toInt32 = (0 : Int32) := by
 intro q
 apply h0
 unfold HI at h
 have e1 := c_l2i ((a.toUInt64 >>> ((32 : Int32) &&& 0x3f).toInt64.toUInt64).toInt64)
 have e2 := c_lushr a (32 : Int32) 32 (by decide) (by decide)
 have e3 := c_l2i a
 have r := rng64 a
 rw [h, e2, show (0 : Int32).toInt = 0 from rfl] at e1
 rw [q, show (0 : Int32).toInt = 0 from rfl] at e3
 rw [show (2 ^ 32 : Nat) = 4294967296 from rfl] at e1
 exact Int64.toInt_inj.mp (by rw [show (0 : Int64).toInt = 0 from rfl]; omega)
theorem own_shma {a : Int64} (h : ¬ a = (0 : Int64)) : (∃ x : Int32, ¬ x = (0 : Int32) ∧ MA a = [x]) ∨ (∃ x y : Int32, ¬ x = (0 : Int32) ∧ MA a = [x, y]) := by
 by_cases q : HI a = (0 : Int32)
 ·exact Or.inl ⟨_, own_hilo q h, own_ma1 q⟩
 ·exact Or.inr ⟨_, _, q, own_ma2 q⟩
theorem own_neg0 {q : Int64} (h : ¬ q = (0 : Int64)) : ¬ (-q) = (0 : Int64) := fun e => h (by rw [← Int64.neg_neg (a := q), e]; rfl)
theorem own_sh (q : Int64) : Sh (SG q) (ML q) := by
 by_cases h0 : q = (0 : Int64)
 ·exact Or.inl ⟨own_sg0 h0, own_ml0 h0⟩
 ·by_cases h : q < (0 : Int64)
  ·have s : ¬ SG q = (0 : Int32) := by rw [own_sgn h0 h]; decide
   rcases own_shma (own_neg0 h0) with ⟨x, hx, e⟩ | ⟨x, y, hx, e⟩
   ·exact Or.inr (Or.inl ⟨s, x, hx, (own_mln h0 h).trans e⟩)
   ·exact Or.inr (Or.inr ⟨s, x, y, hx, (own_mln h0 h).trans e⟩)
  ·have s : ¬ SG q = (0 : Int32) := by rw [own_sgp h0 h]; decide
   rcases own_shma h0 with ⟨x, hx, e⟩ | ⟨x, y, hx, e⟩
   ·exact Or.inr (Or.inl ⟨s, x, hx, (own_mlp h0 h).trans e⟩)
   ·exact Or.inr (Or.inr ⟨s, x, y, hx, (own_mlp h0 h).trans e⟩)
theorem own_sm16 : ∀ i : Fin 17, 1 ≤ i.1 → ¬ (Int64.ofNat i.1).toInt32 < 0 ∧ (Int64.ofNat i.1).toInt32.toNatClampNeg = i.1 ∧ SG (Int64.ofNat i.1) = 1 ∧ ML (Int64.ofNat i.1) = [Int32.ofNat i.1] := by decide +kernel
theorem own_sn16 : ∀ i : Fin 17, 1 ≤ i.1 → ¬ (-(-(Int64.ofNat i.1))).toInt32 < 0 ∧ (-(-(Int64.ofNat i.1))).toInt32.toNatClampNeg = i.1 ∧ SG (-(Int64.ofNat i.1)) = -1 ∧ ML (-(Int64.ofNat i.1)) = [Int32.ofNat i.1] := by decide +kernel
theorem own_small {q : Int64} (h1 : (0 : Int64) < q) (h2 : ¬ (16 : Int64) < q) : ∃ i : Nat, 1 ≤ i ∧ i ≤ 16 ∧ ¬ (q).toInt32 < 0 ∧ (q).toInt32.toNatClampNeg = i ∧ SG q = 1 ∧ ML q = [Int32.ofNat i] := by
 rw [Int64.lt_iff_toInt_lt] at h1 h2
 rw [show (0 : Int64).toInt = 0 from rfl] at h1
 rw [show (16 : Int64).toInt = 16 from rfl] at h2
 have e : q = Int64.ofNat q.toInt.toNat := Int64.toInt_inj.mp (by rw [Int64.toInt_ofNat_of_lt (by omega)]; omega)
 have r := own_sm16 ⟨q.toInt.toNat, by omega⟩ (by show 1 ≤ q.toInt.toNat; omega)
 dsimp only at r
 rw [← e] at r
 exact ⟨q.toInt.toNat, by omega, by omega, r⟩
theorem own_smalln {q : Int64} (h1 : q < (0 : Int64)) (h2 : ¬ q < (-16 : Int64)) : ∃ i : Nat, 1 ≤ i ∧ i ≤ 16 ∧ ¬ (-q).toInt32 < 0 ∧ (-q).toInt32.toNatClampNeg = i ∧ SG q = -1 ∧ ML q = [Int32.ofNat i] := by
 rw [Int64.lt_iff_toInt_lt] at h1 h2
 rw [show (0 : Int64).toInt = 0 from rfl] at h1
 rw [show (-16 : Int64).toInt = -16 from by decide] at h2
 have c := c_lneg q
 have rr := rng64 (-q)
 have e0 : -q = Int64.ofNat (-q).toInt.toNat := Int64.toInt_inj.mp (by rw [Int64.toInt_ofNat_of_lt (by omega)]; omega)
 have e : q = -(Int64.ofNat (-q).toInt.toNat) := by rw [← e0, Int64.neg_neg]
 have r := own_sn16 ⟨(-q).toInt.toNat, by omega⟩ (by show 1 ≤ (-q).toInt.toNat; omega)
 dsimp only at r
 rw [← e] at r
 exact ⟨(-q).toInt.toNat, by omega, by omega, r⟩
theorem d43_0 : dq cd27 0 (.aload_n 0) 1 := by decide +kernel
theorem d43_1 : dq cd27 1 (.invokespecial 3) 3 := by decide +kernel
theorem d43_4 : dq cd27 4 (.lload_n 1) 1 := by decide +kernel
theorem d43_5 : dq cd27 5 (.lconst 0) 1 := by decide +kernel
theorem d43_6 : dq cd27 6 .lcmp 1 := by decide +kernel
theorem d43_7 : dq cd27 7 (.ifCond .ge 14) 3 := by decide +kernel
theorem d43_10 : dq cd27 10 (.lload_n 1) 1 := by decide +kernel
theorem d43_11 : dq cd27 11 .lneg 1 := by decide +kernel
theorem d43_12 : dq cd27 12 (.lstore_n 1) 1 := by decide +kernel
theorem d43_13 : dq cd27 13 (.aload_n 0) 1 := by decide +kernel
theorem d43_14 : dq cd27 14 (.iconst (-1)) 1 := by decide +kernel
theorem d43_15 : dq cd27 15 (.putfield 32) 3 := by decide +kernel
theorem d43_18 : dq cd27 18 (.goto 8) 3 := by decide +kernel
theorem d43_21 : dq cd27 21 (.aload_n 0) 1 := by decide +kernel
theorem d43_22 : dq cd27 22 (.iconst 1) 1 := by decide +kernel
theorem d43_23 : dq cd27 23 (.putfield 32) 3 := by decide +kernel
theorem d43_26 : dq cd27 26 (.lload_n 1) 1 := by decide +kernel
theorem d43_27 : dq cd27 27 (.bipush 32) 2 := by decide +kernel
theorem d43_29 : dq cd27 29 .lushr 1 := by decide +kernel
theorem d43_30 : dq cd27 30 .l2i 1 := by decide +kernel
theorem d43_31 : dq cd27 31 (.istore_n 3) 1 := by decide +kernel
theorem d43_32 : dq cd27 32 (.iload_n 3) 1 := by decide +kernel
theorem d43_33 : dq cd27 33 (.ifCond .ne 21) 3 := by decide +kernel
theorem d43_36 : dq cd27 36 (.aload_n 0) 1 := by decide +kernel
theorem d43_37 : dq cd27 37 (.iconst 1) 1 := by decide +kernel
theorem d43_38 : dq cd27 38 (.newarray .int) 2 := by decide +kernel
theorem d43_40 : dq cd27 40 (.putfield 28) 3 := by decide +kernel
theorem d43_43 : dq cd27 43 (.aload_n 0) 1 := by decide +kernel
theorem d43_44 : dq cd27 44 (.getfield 28) 3 := by decide +kernel
theorem d43_47 : dq cd27 47 (.iconst 0) 1 := by decide +kernel
theorem d43_48 : dq cd27 48 (.lload_n 1) 1 := by decide +kernel
theorem d43_49 : dq cd27 49 .l2i 1 := by decide +kernel
theorem d43_50 : dq cd27 50 .iastore 1 := by decide +kernel
theorem d43_51 : dq cd27 51 (.goto 25) 3 := by decide +kernel
theorem d43_54 : dq cd27 54 (.aload_n 0) 1 := by decide +kernel
theorem d43_55 : dq cd27 55 (.iconst 2) 1 := by decide +kernel
theorem d43_56 : dq cd27 56 (.newarray .int) 2 := by decide +kernel
theorem d43_58 : dq cd27 58 (.putfield 28) 3 := by decide +kernel
theorem d43_61 : dq cd27 61 (.aload_n 0) 1 := by decide +kernel
theorem d43_62 : dq cd27 62 (.getfield 28) 3 := by decide +kernel
theorem d43_65 : dq cd27 65 (.iconst 0) 1 := by decide +kernel
theorem d43_66 : dq cd27 66 (.iload_n 3) 1 := by decide +kernel
theorem d43_67 : dq cd27 67 .iastore 1 := by decide +kernel
theorem d43_68 : dq cd27 68 (.aload_n 0) 1 := by decide +kernel
theorem d43_69 : dq cd27 69 (.getfield 28) 3 := by decide +kernel
theorem d43_72 : dq cd27 72 (.iconst 1) 1 := by decide +kernel
theorem d43_73 : dq cd27 73 (.lload_n 1) 1 := by decide +kernel
theorem d43_74 : dq cd27 74 .l2i 1 := by decide +kernel
theorem d43_75 : dq cd27 75 .iastore 1 := by decide +kernel
theorem d43_76 : dq cd27 76 .return_ 1 := by decide +kernel
theorem ef_43 (m : MethodId) (a1 : Addr) (q2 : Int64) : entryFrame m #[(.ref a1), (.long q2)] 4 = mkF m 0 #[.val (.ref a1), .val (.long q2), .second, .unset] [] := by first | (simp [entryFrame, mkF, argsToLocals, Value.category]; done) | rfl
theorem bij (l : Launch) (Z : State) (a0 : Array Value) (hw : HH a0 Z) (ws : List Jvm.Cond) (a1 : Addr) (q2 : Int64) (h0 : Heap) (n0 : Nat) (Z0 : n0 ≤ h0.size) (E_a1 : Fl7 Z h0 a1) (F_a1_signum : Fl6 Z h0 a1 (.int 0)) (F_a1_mag : Fl5 Z h0 a1 .null) (g_a1 : n0 ≤ a1) (hq : ¬ q2 = (0 : Int64)) : MF l "java/math/BigInteger" "<init>" "(J)V" jdk_2097_method_30_code 4 none ws ⟨2, 1, 2, 24⟩ Z h0 #[(.ref a1), (.long q2)] (fun v h L => ∃ (bv : Addr), v = none ∧ Fr n0 L ∧ Keep h0 h [a1] ∧ Fl7 Z h a1 ∧ Fl6 Z h a1 (.int (SG q2)) ∧ Fl5 Z h a1 (.ref bv) ∧ Fl4 Z h bv ∧ Ax Z h bv .int ((ML q2).map Value.int) ∧ h0.size ≤ bv) := by
 refine own_body (n0 := n0) (plainFor_of_name pn_24) (fun m => ef_43 m a1 q2) ?_
 intro p e s m below meth c s₁ hZ hx hby hml hown hlk hret hnm X0 e0 N0
 show Aq s₁ 0 #[vr a1, vj q2, vz, vu] []
 refine aN X0 hx hby d43_0 rfl rfl ?_
 obtain ⟨v101, T101, L101, X101, hQ101, st101⟩ := cI X0 hx hZ hown (tw192 hw) (tw193 hw) (tw196 hw) (tw197 hw) (numi l Z a0 hw [] a1  h0 n0 Z0 ) (W := 0) e0 (g := (mkF m 1 #[vr a1, vj q2, vz, vu] [(.ref a1)])) rfl hml rfl (argsL := []) (rest := []) (lenOf pd_2 rfl) rfl rfl rfl (hb hby d43_1) rfl
 refine Done.far st101 ?_
 obtain ⟨rfl, N101q, K101q⟩ := hQ101
 show Aq T101 4 #[vr a1, vj q2, vz, vu] []
 refine jN X101 hx hby d43_4 rfl ?_
 refine dS (fun t k => XS.lconst X101.here hx rfl (hb hby d43_5) k) ?_
 show Aq T101 6 #[vr a1, vj q2, vz, vu] [(.long 0), (.long q2)]
 refine dS (fun t k => XS.lcmp X101.here hx rfl (hb hby d43_6) rfl k) ?_
 show Aq T101 7 #[vr a1, vj q2, vz, vu] [(.int (lcmpW q2 (0 : Int64)))]
 by_cases c1 : q2 < (0 : Int64)
 ·refine iF X101 hx hby d43_7 ((if0 _ _).trans (tlt ((lw_lt _ _).mpr c1)).2.1) ?_
  refine jN X101 hx hby d43_10 rfl ?_
  refine dS (fun t k => XS.lneg X101.here hx rfl (hb hby d43_11) rfl k) ?_
  show Aq T101 12 #[vr a1, vj q2, vz, vu] [(.long (-q2))]
  refine dS (fun t k => XS.lstoreN X101.here hx rfl (hb hby d43_12) rfl (l' := #[vr a1, vj (-q2), vz, vu]) rfl k) ?_
  show Aq T101 13 #[vr a1, vj (-q2), vz, vu] []
  refine aN X101 hx hby d43_13 rfl rfl ?_
  refine iC X101 hx hby d43_14 (z := (-1)) rfl ?_
  obtain ⟨T102, h102, X102, e102, W102, st102⟩ := putF X101 hx hZ hown (host := "") (Or.inl (tw93 hw)) Via.refl rfl (F_a1_signum.keep K101q nin0) (E_a1.keep K101q) (Or.inr ⟨(tw94 hw), rfl, hnm⟩) (tw182 hw) (ty := .int) (by decide) rfl rfl (g := (mkF m 15 #[vr a1, vj (-q2), vz, vu] [(.int (-1 : Int32)), (.ref a1)])) rfl rfl (hb hby d43_15)
  have f103 := (F_a1_signum.keep K101q nin0).same W102
  have f104 := (F_a1_mag.keep K101q nin0).other W102 (Or.inr (sq6 hw))
  refine dS st102 ?_
  show Aq T102 18 #[vr a1, vj (-q2), vz, vu] []
  refine gO X102 hx hby d43_18 (pc' := 26) (H := ?_)
  refine jN X102 hx hby d43_26 rfl ?_
  refine iB X102 hx hby d43_27 (z := 32) rfl ?_
  refine dS (fun t k => XS.lushr X102.here hx rfl (hb hby d43_29) rfl k) ?_
  show Aq T102 30 #[vr a1, vj (-q2), vz, vu] [(.long (((-q2).toUInt64 >>> ((32 : Int32) &&& 0x3f).toInt64.toUInt64).toInt64))]
  refine dS (fun t k => XS.l2i X102.here hx rfl (hb hby d43_30) rfl k) ?_
  show Aq T102 31 #[vr a1, vj (-q2), vz, vu] [(.int ((((-q2).toUInt64 >>> ((32 : Int32) &&& 0x3f).toInt64.toUInt64).toInt64)).toInt32)]
  refine sN X102 hx hby d43_31 (l' := #[vr a1, vj (-q2), vz, vi ((((-q2).toUInt64 >>> ((32 : Int32) &&& 0x3f).toInt64.toUInt64).toInt64)).toInt32]) rfl ?_
  refine iN X102 hx hby d43_32 rfl ?_
  by_cases c2 : ((((-q2).toUInt64 >>> ((32 : Int32) &&& 0x3f).toInt64.toUInt64).toInt64)).toInt32 = (0 : Int32)
  ·refine iF X102 hx hby d43_33 ((if0 _ _).trans (teq c2).2) ?_
   refine aN X102 hx hby d43_36 rfl rfl ?_
   refine iC X102 hx hby d43_37 (z := 1) rfl ?_
   obtain ⟨T105, h105, k105, X105, e105, E105, A105, B105, st105⟩ := newPE X102 hx hZ (hw _ (List.mem_of_getElem? (i := 0) rfl)) e102 (g := (mkF m 38 #[vr a1, vj (-q2), vz, vi ((((-q2).toUInt64 >>> ((32 : Int32) &&& 0x3f).toInt64.toUInt64).toInt64)).toInt32] [(.int 1), (.ref a1)])) rfl (hb hby d43_38) rfl (by decide) (cap := 1) (by decide) (by decide) (by decide) (by decide) (ad := "[I") (by decide)
   obtain ⟨b105, gq105⟩ : ∃ z, z = h102.size := ⟨_, rfl⟩
   rw [← gq105] at A105 B105 st105
   have sz_b105 := lb (((kr h0 [a1]).trans K101q all0).wr W102 (Or.inl me0)).1 gq105
   have K105 := (((kr h0 [a1]).trans K101q all0).wr W102 (Or.inl me0)).ext E105
   have f106 : Ax Z h105 b105 .int [(.int 0)] := Ax.new (ty := .int) (i := 1) A105 (by decide)
   refine dS st105 ?_
   show Aq T105 40 #[vr a1, vj (-q2), vz, vi ((((-q2).toUInt64 >>> ((32 : Int32) &&& 0x3f).toInt64.toUInt64).toInt64)).toInt32] [(.ref b105), (.ref a1)]
   obtain ⟨T107, h107, X107, e107, W107, st107⟩ := putF X105 hx hZ hown (host := "") (Or.inl (tw199 hw)) Via.refl e105 (f104.ext E105) (((E_a1.keep K101q).wr W102).ext E105) (Or.inr ⟨(tw111 hw), rfl, hnm⟩) (tw182 hw) (ty := (.array .int)) (by decide) rfl rfl (g := (mkF m 40 #[vr a1, vj (-q2), vz, vi ((((-q2).toUInt64 >>> ((32 : Int32) &&& 0x3f).toInt64.toUInt64).toInt64)).toInt32] [(.ref b105), (.ref a1)])) rfl rfl (hb hby d43_40)
   have f108 := (f103.ext E105).other W107 (Or.inr (sq7 hw))
   have f109 := (f104.ext E105).same W107
   have ne110 := nl ((E_a1.keep K101q).wr W102).lt gq105
   refine dS st107 ?_
   show Aq T107 43 #[vr a1, vj (-q2), vz, vi ((((-q2).toUInt64 >>> ((32 : Int32) &&& 0x3f).toInt64.toUInt64).toInt64)).toInt32] []
   refine aN X107 hx hby d43_43 rfl rfl ?_
   obtain ⟨T111, X111, e111, st111⟩ := gF X107 hx hZ hown (tw199 hw) e107 f109 (g := (mkF m 44 #[vr a1, vj (-q2), vz, vi ((((-q2).toUInt64 >>> ((32 : Int32) &&& 0x3f).toInt64.toUInt64).toInt64)).toInt32] [(.ref a1)])) rfl rfl (hb hby d43_44)
   refine dS st111 ?_
   show Aq T111 47 #[vr a1, vj (-q2), vz, vi ((((-q2).toUInt64 >>> ((32 : Int32) &&& 0x3f).toInt64.toUInt64).toInt64)).toInt32] [(.ref b105)]
   refine iC X111 hx hby d43_47 (z := 0) rfl ?_
   refine jN X111 hx hby d43_48 rfl ?_
   refine dS (fun t k => XS.l2i X111.here hx rfl (hb hby d43_49) rfl k) ?_
   show Aq T111 50 #[vr a1, vj (-q2), vz, vi ((((-q2).toUInt64 >>> ((32 : Int32) &&& 0x3f).toInt64.toUInt64).toInt64)).toInt32] [(.int ((-q2)).toInt32), (.int 0), (.ref b105)]
   obtain ⟨T112, h112, X112, e112, W112, A112, st112⟩ := stoI X111 hx hZ e111 (f106.other W107 ne110.symm) (j := (0 : Int32)) (by decide) (i := 0) (by decide) (Nat.le_of_ble_eq_true rfl) (g := (mkF m 50 #[vr a1, vj (-q2), vz, vi ((((-q2).toUInt64 >>> ((32 : Int32) &&& 0x3f).toInt64.toUInt64).toInt64)).toInt32] [(.int ((-q2)).toInt32), (.int 0), (.ref b105)])) rfl rfl (hb hby d43_50)
   have f113 : Ax Z h112 b105 .int [(.int ((-q2)).toInt32)] := A112
   have Z112 := lw (lw (lq (lw (lq Z0 K101q.1) W102) E105.1) W107) W112
   have N112 := Fr.snoc X112 (Fr.snoc X107 (Fr.snoc X102 (Fr.app N0 N101q) g_a1) g_a1) (lb (lw (lq Z0 K101q.1) W102) gq105)
   refine dS st112 ?_
   show Aq T112 51 #[vr a1, vj (-q2), vz, vi ((((-q2).toUInt64 >>> ((32 : Int32) &&& 0x3f).toInt64.toUInt64).toInt64)).toInt32] []
   refine gO X112 hx hby d43_51 (pc' := 76) (H := ?_)
   exact Done.void X112 hx hlk hret (hb hby d43_76) (by decide) (by decide) ⟨b105, rfl, N112, (by rw [e112]; exact ⟨((K105.wr W107 (Or.inl me0)).wr W112 (Or.inr sz_b105)), (((((E_a1.keep K101q).wr W102).ext E105).wr W107).wr W112), (by rw [own_sgn hq c1]; exact (f108.other W112 (Or.inl ne110))), (f109.other W112 (Or.inl ne110)), ((B105.wr W107).wr W112), (by rw [own_mln hq c1, own_ma1 c2]; exact f113), sz_b105⟩)⟩
  ·refine iY X102 hx hby d43_33 (pc' := 54) ((if0 _ _).trans (feq c2).2) (H := ?_)
   refine aN X102 hx hby d43_54 rfl rfl ?_
   refine iC X102 hx hby d43_55 (z := 2) rfl ?_
   obtain ⟨T114, h114, k114, X114, e114, E114, A114, B114, st114⟩ := newPE X102 hx hZ (hw _ (List.mem_of_getElem? (i := 0) rfl)) e102 (g := (mkF m 56 #[vr a1, vj (-q2), vz, vi ((((-q2).toUInt64 >>> ((32 : Int32) &&& 0x3f).toInt64.toUInt64).toInt64)).toInt32] [(.int 2), (.ref a1)])) rfl (hb hby d43_56) rfl (by decide) (cap := 2) (by decide) (by decide) (by decide) (by decide) (ad := "[I") (by decide)
   obtain ⟨b114, gq114⟩ : ∃ z, z = h102.size := ⟨_, rfl⟩
   rw [← gq114] at A114 B114 st114
   have sz_b114 := lb (((kr h0 [a1]).trans K101q all0).wr W102 (Or.inl me0)).1 gq114
   have K114 := (((kr h0 [a1]).trans K101q all0).wr W102 (Or.inl me0)).ext E114
   have f115 : Ax Z h114 b114 .int [(.int 0), (.int 0)] := Ax.new (ty := .int) (i := 2) A114 (by decide)
   refine dS st114 ?_
   show Aq T114 58 #[vr a1, vj (-q2), vz, vi ((((-q2).toUInt64 >>> ((32 : Int32) &&& 0x3f).toInt64.toUInt64).toInt64)).toInt32] [(.ref b114), (.ref a1)]
   obtain ⟨T116, h116, X116, e116, W116, st116⟩ := putF X114 hx hZ hown (host := "") (Or.inl (tw199 hw)) Via.refl e114 (f104.ext E114) (((E_a1.keep K101q).wr W102).ext E114) (Or.inr ⟨(tw111 hw), rfl, hnm⟩) (tw182 hw) (ty := (.array .int)) (by decide) rfl rfl (g := (mkF m 58 #[vr a1, vj (-q2), vz, vi ((((-q2).toUInt64 >>> ((32 : Int32) &&& 0x3f).toInt64.toUInt64).toInt64)).toInt32] [(.ref b114), (.ref a1)])) rfl rfl (hb hby d43_58)
   have f117 := (f103.ext E114).other W116 (Or.inr (sq7 hw))
   have f118 := (f104.ext E114).same W116
   have ne119 := nl ((E_a1.keep K101q).wr W102).lt gq114
   refine dS st116 ?_
   show Aq T116 61 #[vr a1, vj (-q2), vz, vi ((((-q2).toUInt64 >>> ((32 : Int32) &&& 0x3f).toInt64.toUInt64).toInt64)).toInt32] []
   refine aN X116 hx hby d43_61 rfl rfl ?_
   obtain ⟨T120, X120, e120, st120⟩ := gF X116 hx hZ hown (tw199 hw) e116 f118 (g := (mkF m 62 #[vr a1, vj (-q2), vz, vi ((((-q2).toUInt64 >>> ((32 : Int32) &&& 0x3f).toInt64.toUInt64).toInt64)).toInt32] [(.ref a1)])) rfl rfl (hb hby d43_62)
   refine dS st120 ?_
   show Aq T120 65 #[vr a1, vj (-q2), vz, vi ((((-q2).toUInt64 >>> ((32 : Int32) &&& 0x3f).toInt64.toUInt64).toInt64)).toInt32] [(.ref b114)]
   refine iC X120 hx hby d43_65 (z := 0) rfl ?_
   refine iN X120 hx hby d43_66 rfl ?_
   obtain ⟨T121, h121, X121, e121, W121, A121, st121⟩ := stoI X120 hx hZ e120 (f115.other W116 ne119.symm) (j := (0 : Int32)) (by decide) (i := 0) (by decide) (Nat.le_of_ble_eq_true rfl) (g := (mkF m 67 #[vr a1, vj (-q2), vz, vi ((((-q2).toUInt64 >>> ((32 : Int32) &&& 0x3f).toInt64.toUInt64).toInt64)).toInt32] [(.int ((((-q2).toUInt64 >>> ((32 : Int32) &&& 0x3f).toInt64.toUInt64).toInt64)).toInt32), (.int 0), (.ref b114)])) rfl rfl (hb hby d43_67)
   have f122 : Ax Z h121 b114 .int [(.int ((((-q2).toUInt64 >>> ((32 : Int32) &&& 0x3f).toInt64.toUInt64).toInt64)).toInt32), (.int 0)] := A121
   have Z121 := lw (lw (lq (lw (lq Z0 K101q.1) W102) E114.1) W116) W121
   have N121 := Fr.snoc X121 (Fr.snoc X116 (Fr.snoc X102 (Fr.app N0 N101q) g_a1) g_a1) (lb (lw (lq Z0 K101q.1) W102) gq114)
   refine dS st121 ?_
   show Aq T121 68 #[vr a1, vj (-q2), vz, vi ((((-q2).toUInt64 >>> ((32 : Int32) &&& 0x3f).toInt64.toUInt64).toInt64)).toInt32] []
   refine aN X121 hx hby d43_68 rfl rfl ?_
   obtain ⟨T123, X123, e123, st123⟩ := gF X121 hx hZ hown (tw199 hw) e121 (f118.other W121 (Or.inl ne119)) (g := (mkF m 69 #[vr a1, vj (-q2), vz, vi ((((-q2).toUInt64 >>> ((32 : Int32) &&& 0x3f).toInt64.toUInt64).toInt64)).toInt32] [(.ref a1)])) rfl rfl (hb hby d43_69)
   refine dS st123 ?_
   show Aq T123 72 #[vr a1, vj (-q2), vz, vi ((((-q2).toUInt64 >>> ((32 : Int32) &&& 0x3f).toInt64.toUInt64).toInt64)).toInt32] [(.ref b114)]
   refine iC X123 hx hby d43_72 (z := 1) rfl ?_
   refine jN X123 hx hby d43_73 rfl ?_
   refine dS (fun t k => XS.l2i X123.here hx rfl (hb hby d43_74) rfl k) ?_
   show Aq T123 75 #[vr a1, vj (-q2), vz, vi ((((-q2).toUInt64 >>> ((32 : Int32) &&& 0x3f).toInt64.toUInt64).toInt64)).toInt32] [(.int ((-q2)).toInt32), (.int 1), (.ref b114)]
   obtain ⟨T124, h124, X124, e124, W124, A124, st124⟩ := stoI X123 hx hZ e123 f122 (j := (1 : Int32)) (by decide) (i := 1) (by decide) (Nat.le_of_ble_eq_true rfl) (g := (mkF m 75 #[vr a1, vj (-q2), vz, vi ((((-q2).toUInt64 >>> ((32 : Int32) &&& 0x3f).toInt64.toUInt64).toInt64)).toInt32] [(.int ((-q2)).toInt32), (.int 1), (.ref b114)])) rfl rfl (hb hby d43_75)
   have f125 : Ax Z h124 b114 .int [(.int ((((-q2).toUInt64 >>> ((32 : Int32) &&& 0x3f).toInt64.toUInt64).toInt64)).toInt32), (.int ((-q2)).toInt32)] := A124
   have K124 := ((K114.wr W116 (Or.inl me0)).wr W121 (Or.inr sz_b114)).wr W124 (Or.inr sz_b114)
   refine dS st124 ?_
   show Aq T124 76 #[vr a1, vj (-q2), vz, vi ((((-q2).toUInt64 >>> ((32 : Int32) &&& 0x3f).toInt64.toUInt64).toInt64)).toInt32] []
   exact Done.void X124 hx hlk hret (hb hby d43_76) (by decide) (by decide) ⟨b114, rfl, (Fr.snoc X124 N121 (lb (lw (lq Z0 K101q.1) W102) gq114)), (by rw [e124]; exact ⟨K124, ((((((E_a1.keep K101q).wr W102).ext E114).wr W116).wr W121).wr W124), (by rw [own_sgn hq c1]; exact ((f117.other W121 (Or.inl ne119)).other W124 (Or.inl ne119))), ((f118.other W121 (Or.inl ne119)).other W124 (Or.inl ne119)), (((B114.wr W116).wr W121).wr W124), (by rw [own_mln hq c1, own_ma2 c2]; exact f125), sz_b114⟩)⟩
 ·refine iY X101 hx hby d43_7 (pc' := 21) ((if0 _ _).trans (flt (fun q_ => c1 ((lw_lt _ _).mp q_))).2.1) (H := ?_)
  refine aN X101 hx hby d43_21 rfl rfl ?_
  refine iC X101 hx hby d43_22 (z := 1) rfl ?_
  obtain ⟨T126, h126, X126, e126, W126, st126⟩ := putF X101 hx hZ hown (host := "") (Or.inl (tw93 hw)) Via.refl rfl (F_a1_signum.keep K101q nin0) (E_a1.keep K101q) (Or.inr ⟨(tw94 hw), rfl, hnm⟩) (tw182 hw) (ty := .int) (by decide) rfl rfl (g := (mkF m 23 #[vr a1, vj q2, vz, vu] [(.int 1), (.ref a1)])) rfl rfl (hb hby d43_23)
  have f127 := (F_a1_signum.keep K101q nin0).same W126
  have f128 := (F_a1_mag.keep K101q nin0).other W126 (Or.inr (sq6 hw))
  refine dS st126 ?_
  show Aq T126 26 #[vr a1, vj q2, vz, vu] []
  refine jN X126 hx hby d43_26 rfl ?_
  refine iB X126 hx hby d43_27 (z := 32) rfl ?_
  refine dS (fun t k => XS.lushr X126.here hx rfl (hb hby d43_29) rfl k) ?_
  show Aq T126 30 #[vr a1, vj q2, vz, vu] [(.long ((q2.toUInt64 >>> ((32 : Int32) &&& 0x3f).toInt64.toUInt64).toInt64))]
  refine dS (fun t k => XS.l2i X126.here hx rfl (hb hby d43_30) rfl k) ?_
  show Aq T126 31 #[vr a1, vj q2, vz, vu] [(.int (((q2.toUInt64 >>> ((32 : Int32) &&& 0x3f).toInt64.toUInt64).toInt64)).toInt32)]
  refine sN X126 hx hby d43_31 (l' := #[vr a1, vj q2, vz, vi (((q2.toUInt64 >>> ((32 : Int32) &&& 0x3f).toInt64.toUInt64).toInt64)).toInt32]) rfl ?_
  refine iN X126 hx hby d43_32 rfl ?_
  by_cases c3 : (((q2.toUInt64 >>> ((32 : Int32) &&& 0x3f).toInt64.toUInt64).toInt64)).toInt32 = (0 : Int32)
  ·refine iF X126 hx hby d43_33 ((if0 _ _).trans (teq c3).2) ?_
   refine aN X126 hx hby d43_36 rfl rfl ?_
   refine iC X126 hx hby d43_37 (z := 1) rfl ?_
   obtain ⟨T129, h129, k129, X129, e129, E129, A129, B129, st129⟩ := newPE X126 hx hZ (hw _ (List.mem_of_getElem? (i := 0) rfl)) e126 (g := (mkF m 38 #[vr a1, vj q2, vz, vi (((q2.toUInt64 >>> ((32 : Int32) &&& 0x3f).toInt64.toUInt64).toInt64)).toInt32] [(.int 1), (.ref a1)])) rfl (hb hby d43_38) rfl (by decide) (cap := 1) (by decide) (by decide) (by decide) (by decide) (ad := "[I") (by decide)
   obtain ⟨b129, gq129⟩ : ∃ z, z = h126.size := ⟨_, rfl⟩
   rw [← gq129] at A129 B129 st129
   have sz_b129 := lb (((kr h0 [a1]).trans K101q all0).wr W126 (Or.inl me0)).1 gq129
   have K129 := (((kr h0 [a1]).trans K101q all0).wr W126 (Or.inl me0)).ext E129
   have f130 : Ax Z h129 b129 .int [(.int 0)] := Ax.new (ty := .int) (i := 1) A129 (by decide)
   refine dS st129 ?_
   show Aq T129 40 #[vr a1, vj q2, vz, vi (((q2.toUInt64 >>> ((32 : Int32) &&& 0x3f).toInt64.toUInt64).toInt64)).toInt32] [(.ref b129), (.ref a1)]
   obtain ⟨T131, h131, X131, e131, W131, st131⟩ := putF X129 hx hZ hown (host := "") (Or.inl (tw199 hw)) Via.refl e129 (f128.ext E129) (((E_a1.keep K101q).wr W126).ext E129) (Or.inr ⟨(tw111 hw), rfl, hnm⟩) (tw182 hw) (ty := (.array .int)) (by decide) rfl rfl (g := (mkF m 40 #[vr a1, vj q2, vz, vi (((q2.toUInt64 >>> ((32 : Int32) &&& 0x3f).toInt64.toUInt64).toInt64)).toInt32] [(.ref b129), (.ref a1)])) rfl rfl (hb hby d43_40)
   have f132 := (f127.ext E129).other W131 (Or.inr (sq7 hw))
   have f133 := (f128.ext E129).same W131
   have ne134 := nl ((E_a1.keep K101q).wr W126).lt gq129
   refine dS st131 ?_
   show Aq T131 43 #[vr a1, vj q2, vz, vi (((q2.toUInt64 >>> ((32 : Int32) &&& 0x3f).toInt64.toUInt64).toInt64)).toInt32] []
   refine aN X131 hx hby d43_43 rfl rfl ?_
   obtain ⟨T135, X135, e135, st135⟩ := gF X131 hx hZ hown (tw199 hw) e131 f133 (g := (mkF m 44 #[vr a1, vj q2, vz, vi (((q2.toUInt64 >>> ((32 : Int32) &&& 0x3f).toInt64.toUInt64).toInt64)).toInt32] [(.ref a1)])) rfl rfl (hb hby d43_44)
   refine dS st135 ?_
   show Aq T135 47 #[vr a1, vj q2, vz, vi (((q2.toUInt64 >>> ((32 : Int32) &&& 0x3f).toInt64.toUInt64).toInt64)).toInt32] [(.ref b129)]
   refine iC X135 hx hby d43_47 (z := 0) rfl ?_
   refine jN X135 hx hby d43_48 rfl ?_
   refine dS (fun t k => XS.l2i X135.here hx rfl (hb hby d43_49) rfl k) ?_
   show Aq T135 50 #[vr a1, vj q2, vz, vi (((q2.toUInt64 >>> ((32 : Int32) &&& 0x3f).toInt64.toUInt64).toInt64)).toInt32] [(.int (q2).toInt32), (.int 0), (.ref b129)]
   obtain ⟨T136, h136, X136, e136, W136, A136, st136⟩ := stoI X135 hx hZ e135 (f130.other W131 ne134.symm) (j := (0 : Int32)) (by decide) (i := 0) (by decide) (Nat.le_of_ble_eq_true rfl) (g := (mkF m 50 #[vr a1, vj q2, vz, vi (((q2.toUInt64 >>> ((32 : Int32) &&& 0x3f).toInt64.toUInt64).toInt64)).toInt32] [(.int (q2).toInt32), (.int 0), (.ref b129)])) rfl rfl (hb hby d43_50)
   have f137 : Ax Z h136 b129 .int [(.int (q2).toInt32)] := A136
   have Z136 := lw (lw (lq (lw (lq Z0 K101q.1) W126) E129.1) W131) W136
   have N136 := Fr.snoc X136 (Fr.snoc X131 (Fr.snoc X126 (Fr.app N0 N101q) g_a1) g_a1) (lb (lw (lq Z0 K101q.1) W126) gq129)
   refine dS st136 ?_
   show Aq T136 51 #[vr a1, vj q2, vz, vi (((q2.toUInt64 >>> ((32 : Int32) &&& 0x3f).toInt64.toUInt64).toInt64)).toInt32] []
   refine gO X136 hx hby d43_51 (pc' := 76) (H := ?_)
   exact Done.void X136 hx hlk hret (hb hby d43_76) (by decide) (by decide) ⟨b129, rfl, N136, (by rw [e136]; exact ⟨((K129.wr W131 (Or.inl me0)).wr W136 (Or.inr sz_b129)), (((((E_a1.keep K101q).wr W126).ext E129).wr W131).wr W136), (by rw [own_sgp hq c1]; exact (f132.other W136 (Or.inl ne134))), (f133.other W136 (Or.inl ne134)), ((B129.wr W131).wr W136), (by rw [own_mlp hq c1, own_ma1 c3]; exact f137), sz_b129⟩)⟩
  ·refine iY X126 hx hby d43_33 (pc' := 54) ((if0 _ _).trans (feq c3).2) (H := ?_)
   refine aN X126 hx hby d43_54 rfl rfl ?_
   refine iC X126 hx hby d43_55 (z := 2) rfl ?_
   obtain ⟨T138, h138, k138, X138, e138, E138, A138, B138, st138⟩ := newPE X126 hx hZ (hw _ (List.mem_of_getElem? (i := 0) rfl)) e126 (g := (mkF m 56 #[vr a1, vj q2, vz, vi (((q2.toUInt64 >>> ((32 : Int32) &&& 0x3f).toInt64.toUInt64).toInt64)).toInt32] [(.int 2), (.ref a1)])) rfl (hb hby d43_56) rfl (by decide) (cap := 2) (by decide) (by decide) (by decide) (by decide) (ad := "[I") (by decide)
   obtain ⟨b138, gq138⟩ : ∃ z, z = h126.size := ⟨_, rfl⟩
   rw [← gq138] at A138 B138 st138
   have sz_b138 := lb (((kr h0 [a1]).trans K101q all0).wr W126 (Or.inl me0)).1 gq138
   have K138 := (((kr h0 [a1]).trans K101q all0).wr W126 (Or.inl me0)).ext E138
   have f139 : Ax Z h138 b138 .int [(.int 0), (.int 0)] := Ax.new (ty := .int) (i := 2) A138 (by decide)
   refine dS st138 ?_
   show Aq T138 58 #[vr a1, vj q2, vz, vi (((q2.toUInt64 >>> ((32 : Int32) &&& 0x3f).toInt64.toUInt64).toInt64)).toInt32] [(.ref b138), (.ref a1)]
   obtain ⟨T140, h140, X140, e140, W140, st140⟩ := putF X138 hx hZ hown (host := "") (Or.inl (tw199 hw)) Via.refl e138 (f128.ext E138) (((E_a1.keep K101q).wr W126).ext E138) (Or.inr ⟨(tw111 hw), rfl, hnm⟩) (tw182 hw) (ty := (.array .int)) (by decide) rfl rfl (g := (mkF m 58 #[vr a1, vj q2, vz, vi (((q2.toUInt64 >>> ((32 : Int32) &&& 0x3f).toInt64.toUInt64).toInt64)).toInt32] [(.ref b138), (.ref a1)])) rfl rfl (hb hby d43_58)
   have f141 := (f127.ext E138).other W140 (Or.inr (sq7 hw))
   have f142 := (f128.ext E138).same W140
   have ne143 := nl ((E_a1.keep K101q).wr W126).lt gq138
   refine dS st140 ?_
   show Aq T140 61 #[vr a1, vj q2, vz, vi (((q2.toUInt64 >>> ((32 : Int32) &&& 0x3f).toInt64.toUInt64).toInt64)).toInt32] []
   refine aN X140 hx hby d43_61 rfl rfl ?_
   obtain ⟨T144, X144, e144, st144⟩ := gF X140 hx hZ hown (tw199 hw) e140 f142 (g := (mkF m 62 #[vr a1, vj q2, vz, vi (((q2.toUInt64 >>> ((32 : Int32) &&& 0x3f).toInt64.toUInt64).toInt64)).toInt32] [(.ref a1)])) rfl rfl (hb hby d43_62)
   refine dS st144 ?_
   show Aq T144 65 #[vr a1, vj q2, vz, vi (((q2.toUInt64 >>> ((32 : Int32) &&& 0x3f).toInt64.toUInt64).toInt64)).toInt32] [(.ref b138)]
   refine iC X144 hx hby d43_65 (z := 0) rfl ?_
   refine iN X144 hx hby d43_66 rfl ?_
   obtain ⟨T145, h145, X145, e145, W145, A145, st145⟩ := stoI X144 hx hZ e144 (f139.other W140 ne143.symm) (j := (0 : Int32)) (by decide) (i := 0) (by decide) (Nat.le_of_ble_eq_true rfl) (g := (mkF m 67 #[vr a1, vj q2, vz, vi (((q2.toUInt64 >>> ((32 : Int32) &&& 0x3f).toInt64.toUInt64).toInt64)).toInt32] [(.int (((q2.toUInt64 >>> ((32 : Int32) &&& 0x3f).toInt64.toUInt64).toInt64)).toInt32), (.int 0), (.ref b138)])) rfl rfl (hb hby d43_67)
   have f146 : Ax Z h145 b138 .int [(.int (((q2.toUInt64 >>> ((32 : Int32) &&& 0x3f).toInt64.toUInt64).toInt64)).toInt32), (.int 0)] := A145
   have Z145 := lw (lw (lq (lw (lq Z0 K101q.1) W126) E138.1) W140) W145
   have N145 := Fr.snoc X145 (Fr.snoc X140 (Fr.snoc X126 (Fr.app N0 N101q) g_a1) g_a1) (lb (lw (lq Z0 K101q.1) W126) gq138)
   refine dS st145 ?_
   show Aq T145 68 #[vr a1, vj q2, vz, vi (((q2.toUInt64 >>> ((32 : Int32) &&& 0x3f).toInt64.toUInt64).toInt64)).toInt32] []
   refine aN X145 hx hby d43_68 rfl rfl ?_
   obtain ⟨T147, X147, e147, st147⟩ := gF X145 hx hZ hown (tw199 hw) e145 (f142.other W145 (Or.inl ne143)) (g := (mkF m 69 #[vr a1, vj q2, vz, vi (((q2.toUInt64 >>> ((32 : Int32) &&& 0x3f).toInt64.toUInt64).toInt64)).toInt32] [(.ref a1)])) rfl rfl (hb hby d43_69)
   refine dS st147 ?_
   show Aq T147 72 #[vr a1, vj q2, vz, vi (((q2.toUInt64 >>> ((32 : Int32) &&& 0x3f).toInt64.toUInt64).toInt64)).toInt32] [(.ref b138)]
   refine iC X147 hx hby d43_72 (z := 1) rfl ?_
   refine jN X147 hx hby d43_73 rfl ?_
   refine dS (fun t k => XS.l2i X147.here hx rfl (hb hby d43_74) rfl k) ?_
   show Aq T147 75 #[vr a1, vj q2, vz, vi (((q2.toUInt64 >>> ((32 : Int32) &&& 0x3f).toInt64.toUInt64).toInt64)).toInt32] [(.int (q2).toInt32), (.int 1), (.ref b138)]
   obtain ⟨T148, h148, X148, e148, W148, A148, st148⟩ := stoI X147 hx hZ e147 f146 (j := (1 : Int32)) (by decide) (i := 1) (by decide) (Nat.le_of_ble_eq_true rfl) (g := (mkF m 75 #[vr a1, vj q2, vz, vi (((q2.toUInt64 >>> ((32 : Int32) &&& 0x3f).toInt64.toUInt64).toInt64)).toInt32] [(.int (q2).toInt32), (.int 1), (.ref b138)])) rfl rfl (hb hby d43_75)
   have f149 : Ax Z h148 b138 .int [(.int (((q2.toUInt64 >>> ((32 : Int32) &&& 0x3f).toInt64.toUInt64).toInt64)).toInt32), (.int (q2).toInt32)] := A148
   have K148 := ((K138.wr W140 (Or.inl me0)).wr W145 (Or.inr sz_b138)).wr W148 (Or.inr sz_b138)
   refine dS st148 ?_
   show Aq T148 76 #[vr a1, vj q2, vz, vi (((q2.toUInt64 >>> ((32 : Int32) &&& 0x3f).toInt64.toUInt64).toInt64)).toInt32] []
   exact Done.void X148 hx hlk hret (hb hby d43_76) (by decide) (by decide) ⟨b138, rfl, (Fr.snoc X148 N145 (lb (lw (lq Z0 K101q.1) W126) gq138)), (by rw [e148]; exact ⟨K148, ((((((E_a1.keep K101q).wr W126).ext E138).wr W140).wr W145).wr W148), (by rw [own_sgp hq c1]; exact ((f141.other W145 (Or.inl ne143)).other W148 (Or.inl ne143))), ((f142.other W145 (Or.inl ne143)).other W148 (Or.inl ne143)), (((B138.wr W140).wr W145).wr W148), (by rw [own_mlp hq c1, own_ma2 c3]; exact f149), sz_b138⟩)⟩
theorem d11_0 : dq cd28 0 (.lload_n 0) 1 := by decide +kernel
theorem d11_1 : dq cd28 1 (.lconst 0) 1 := by decide +kernel
theorem d11_2 : dq cd28 2 .lcmp 1 := by decide +kernel
theorem d11_3 : dq cd28 3 (.ifCond .ne 7) 3 := by decide +kernel
theorem d11_6 : dq cd28 6 (.getstatic 22) 3 := by decide +kernel
theorem d11_9 : dq cd28 9 .areturn 1 := by decide +kernel
theorem d11_10 : dq cd28 10 (.lload_n 0) 1 := by decide +kernel
theorem d11_11 : dq cd28 11 (.lconst 0) 1 := by decide +kernel
theorem d11_12 : dq cd28 12 .lcmp 1 := by decide +kernel
theorem d11_13 : dq cd28 13 (.ifCond .le 18) 3 := by decide +kernel
theorem d11_16 : dq cd28 16 (.lload_n 0) 1 := by decide +kernel
theorem d11_17 : dq cd28 17 (.ldc2_w 345) 3 := by decide +kernel
theorem d11_20 : dq cd28 20 .lcmp 1 := by decide +kernel
theorem d11_21 : dq cd28 21 (.ifCond .gt 10) 3 := by decide +kernel
theorem d11_24 : dq cd28 24 (.getstatic 347) 3 := by decide +kernel
theorem d11_27 : dq cd28 27 (.lload_n 0) 1 := by decide +kernel
theorem d11_28 : dq cd28 28 .l2i 1 := by decide +kernel
theorem d11_29 : dq cd28 29 .aaload 1 := by decide +kernel
theorem d11_30 : dq cd28 30 .areturn 1 := by decide +kernel
theorem d11_31 : dq cd28 31 (.lload_n 0) 1 := by decide +kernel
theorem d11_32 : dq cd28 32 (.lconst 0) 1 := by decide +kernel
theorem d11_33 : dq cd28 33 .lcmp 1 := by decide +kernel
theorem d11_34 : dq cd28 34 (.ifCond .ge 19) 3 := by decide +kernel
theorem d11_37 : dq cd28 37 (.lload_n 0) 1 := by decide +kernel
theorem d11_38 : dq cd28 38 (.ldc2_w 351) 3 := by decide +kernel
theorem d11_41 : dq cd28 41 .lcmp 1 := by decide +kernel
theorem d11_42 : dq cd28 42 (.ifCond .lt 11) 3 := by decide +kernel
theorem d11_45 : dq cd28 45 (.getstatic 353) 3 := by decide +kernel
theorem d11_48 : dq cd28 48 (.lload_n 0) 1 := by decide +kernel
theorem d11_49 : dq cd28 49 .lneg 1 := by decide +kernel
theorem d11_50 : dq cd28 50 .l2i 1 := by decide +kernel
theorem d11_51 : dq cd28 51 .aaload 1 := by decide +kernel
theorem d11_52 : dq cd28 52 .areturn 1 := by decide +kernel
theorem d11_53 : dq cd28 53 (.new 23) 3 := by decide +kernel
theorem d11_56 : dq cd28 56 .dup 1 := by decide +kernel
theorem d11_57 : dq cd28 57 (.lload_n 0) 1 := by decide +kernel
theorem d11_58 : dq cd28 58 (.invokespecial 356) 3 := by decide +kernel
theorem d11_61 : dq cd28 61 .areturn 1 := by decide +kernel
theorem ef_11 (m : MethodId) (q1 : Int64) : entryFrame m #[(.long q1)] 2 = mkF m 0 #[.val (.long q1), .second] [] := by first | (simp [entryFrame, mkF, argsToLocals, Value.category]; done) | rfl
theorem vof (l : Launch) (Z : State) (a0 : Array Value) (hw : HH a0 Z) (ws : List Jvm.Cond) (q1 : Int64) (hO : Heap) (h0 : Heap) (n0 : Nat) (Z0 : n0 ≤ h0.size) (KO : Keep hO h0 []) (ST : Stat Z hO) : MF l "java/math/BigInteger" "valueOf" "(J)Ljava/math/BigInteger;" jdk_2097_method_29_code 2 (some (.object "java/math/BigInteger")) ws ⟨3, 2, 8, 40⟩ Z h0 #[(.long q1)] (fun v h L => ∃ (gb gm : Addr), v = some (.ref gb) ∧ Fr n0 L ∧ Keep h0 h [] ∧ Fl7 Z h gb ∧ Fl6 Z h gb (.int (SG q1)) ∧ Fl5 Z h gb (.ref gm) ∧ Fl4 Z h gm ∧ Ax Z h gm .int ((ML q1).map Value.int)) := by
 refine own_body (n0 := n0) (plainFor_of_name pn_24) (fun m => ef_11 m q1) ?_
 intro p e s m below meth c s₁ hZ hx hby hml hown hlk hret hnm X0 e0 N0
 show Aq s₁ 0 #[vj q1, vz] []
 refine jN X0 hx hby d11_0 rfl ?_
 refine dS (fun t k => XS.lconst X0.here hx rfl (hb hby d11_1) k) ?_
 show Aq s₁ 2 #[vj q1, vz] [(.long 0), (.long q1)]
 refine dS (fun t k => XS.lcmp X0.here hx rfl (hb hby d11_2) rfl k) ?_
 show Aq s₁ 3 #[vj q1, vz] [(.int (lcmpW q1 (0 : Int64)))]
 by_cases c1 : q1 = (0 : Int64)
 ·refine iF X0 hx hby d11_3 ((if0 _ _).trans (teq ((lw_eq _ _).mpr c1)).2) ?_
  obtain ⟨sb101, sm101, sS101, sE101, sG101, sM101, sX101, sA101⟩ := Bst.keep ST.1 (KO.trans (kr h0 []) all0)
  obtain ⟨T102, X102, e102, st102⟩ := getS2 X0 hx hZ hown (host := "") (Or.inl (tw284 hw)) Via.refl e0 sS101 (g := (mkF m 6 #[vj q1, vz] [])) rfl (hb hby d11_6)
  refine dS st102 ?_
  show Aq T102 9 #[vj q1, vz] [(.ref sb101)]
  exact Done.ref X102 hx hlk hret rfl rfl rfl (hb hby d11_9) (by decide) (by decide) ⟨sb101, sm101, rfl, N0, (by rw [e102]; exact ⟨(kr h0 []), sE101, (by rw [own_sg0 c1]; exact sG101), sM101, sX101, (by rw [own_ml0 c1]; exact sA101)⟩)⟩
 ·refine iY X0 hx hby d11_3 (pc' := 10) ((if0 _ _).trans (feq (fun q_ => c1 ((lw_eq _ _).mp q_))).2) (H := ?_)
  refine jN X0 hx hby d11_10 rfl ?_
  refine dS (fun t k => XS.lconst X0.here hx rfl (hb hby d11_11) k) ?_
  show Aq s₁ 12 #[vj q1, vz] [(.long 0), (.long q1)]
  refine dS (fun t k => XS.lcmp X0.here hx rfl (hb hby d11_12) rfl k) ?_
  show Aq s₁ 13 #[vj q1, vz] [(.int (lcmpW q1 (0 : Int64)))]
  by_cases c2 : (0 : Int64) < q1
  ·refine iF X0 hx hby d11_13 ((if0 _ _).trans (tlt ((lw_gt _ _).mpr c2)).2.2.2) ?_
   refine jN X0 hx hby d11_16 rfl ?_
   refine dS (X0.ldc2Long hx hown (mvT hZ (tw83 hw)) (g := (mkF m 17 #[vj q1, vz] [(.long q1)])) rfl (hb hby d11_17)) ?_
   show Aq s₁ 20 #[vj q1, vz] [(.long 16), (.long q1)]
   refine dS (fun t k => XS.lcmp X0.here hx rfl (hb hby d11_20) rfl k) ?_
   show Aq s₁ 21 #[vj q1, vz] [(.int (lcmpW q1 (16 : Int64)))]
   by_cases c3 : (16 : Int64) < q1
   ·refine iY X0 hx hby d11_21 (pc' := 31) ((if0 _ _).trans (tlt ((lw_gt _ _).mpr c3)).2.2.1) (H := ?_)
    refine jN X0 hx hby d11_31 rfl ?_
    refine dS (fun t k => XS.lconst X0.here hx rfl (hb hby d11_32) k) ?_
    show Aq s₁ 33 #[vj q1, vz] [(.long 0), (.long q1)]
    refine dS (fun t k => XS.lcmp X0.here hx rfl (hb hby d11_33) rfl k) ?_
    show Aq s₁ 34 #[vj q1, vz] [(.int (lcmpW q1 (0 : Int64)))]
    by_cases c4 : q1 < (0 : Int64)
    ·refine iF X0 hx hby d11_34 ((if0 _ _).trans (tlt ((lw_lt _ _).mpr c4)).2.1) ?_
     refine jN X0 hx hby d11_37 rfl ?_
     refine dS (X0.ldc2Long hx hown (mvT hZ (tw263 hw)) (g := (mkF m 38 #[vj q1, vz] [(.long q1)])) rfl (hb hby d11_38)) ?_
     show Aq s₁ 41 #[vj q1, vz] [(.long (-16 : Int64)), (.long q1)]
     refine dS (fun t k => XS.lcmp X0.here hx rfl (hb hby d11_41) rfl k) ?_
     show Aq s₁ 42 #[vj q1, vz] [(.int (lcmpW q1 (-16 : Int64)))]
     by_cases c5 : q1 < (-16 : Int64)
     ·refine iY X0 hx hby d11_42 (pc' := 53) ((if0 _ _).trans (tlt ((lw_lt _ _).mpr c5)).1) (H := ?_)
      obtain ⟨T103, h103, X103, e103, E103, A103, D103, -, st103⟩ := newO X0 hx hZ hown (tw262 hw) (tw182 hw) (tw81 hw) e0 (g := (mkF m 53 #[vj q1, vz] [])) rfl (hb hby d11_53) (by decide) (by decide)
      obtain ⟨b103, gq103⟩ : ∃ z, z = h0.size := ⟨_, rfl⟩
      rw [← gq103] at A103 D103 st103
      have sz_b103 := lb (kr h0 []).1 gq103
      have f104 : Fl6 Z h103 b103 (.int 0) := D103 (Or.inr (tw94 hw)) (ty := .int) (by decide)
      have f105 : Fl5 Z h103 b103 .null := D103 (Or.inr (tw111 hw)) (ty := (.array .int)) (by decide)
      refine dS st103 ?_
      show Aq T103 56 #[vj q1, vz] [(.ref b103)]
      refine dU X103 hx hby d11_56 rfl ?_
      refine jN X103 hx hby d11_57 rfl ?_
      obtain ⟨v106, T106, L106, X106, hQ106, st106⟩ := cI X103 hx hZ hown (tw264 hw) (tw265 hw) (tw81 hw) (tw266 hw) (bij l Z a0 hw [] b103 q1  h103 n0 (lq Z0 E103.1) A103 f104 f105 (lb Z0 gq103) c1) (W := 1) e103 (g := (mkF m 58 #[vj q1, vz] [(.long q1), (.ref b103), (.ref b103)])) rfl hml rfl (argsL := [(.long q1)]) (rest := [(.ref b103)]) (lenOf pd_14 rfl) rfl rfl rfl (hb hby d11_58) rfl
      refine Done.far st106 ?_
      obtain ⟨bv_106, rfl, N106q, K106q, y106_0, y106_1, y106_2, y106_3, y106_4, z106_5⟩ := hQ106
      have sz_bv_106 := lq ((kr h0 []).ext E103).1 z106_5
      show Aq T106 61 #[vj q1, vz] [(.ref b103)]
      exact Done.ref X106 hx hlk hret rfl rfl rfl (hb hby d11_61) (by decide) (by decide) ⟨b103, bv_106, rfl, (Fr.app N0 N106q), ⟨(((kr h0 []).ext E103).trans K106q (allS (Or.inr sz_b103) all0)), y106_0, y106_1, y106_2, y106_3, y106_4⟩⟩
     ·refine iF X0 hx hby d11_42 ((if0 _ _).trans (flt (fun q_ => c5 ((lw_lt _ _).mp q_))).1) ?_
      obtain ⟨sa107, sc107, sS107, sA107, sE107⟩ := Cst.keep ST.2.2.2 (KO.trans (kr h0 []) all0)
      obtain ⟨T108, X108, e108, st108⟩ := getS2 X0 hx hZ hown (host := "") (Or.inl (tw283 hw)) Via.refl e0 sS107 (g := (mkF m 45 #[vj q1, vz] [])) rfl (hb hby d11_45)
      refine dS st108 ?_
      show Aq T108 48 #[vj q1, vz] [(.ref sa107)]
      refine jN X108 hx hby d11_48 rfl ?_
      refine dS (fun t k => XS.lneg X108.here hx rfl (hb hby d11_49) rfl k) ?_
      show Aq T108 50 #[vj q1, vz] [(.long (-q1)), (.ref sa107)]
      refine dS (fun t k => XS.l2i X108.here hx rfl (hb hby d11_50) rfl k) ?_
      show Aq T108 51 #[vj q1, vz] [(.int ((-q1)).toInt32), (.ref sa107)]
      obtain ⟨i, hi1, hi2, hin, hic, hisg, himl⟩ := own_smalln c4 c5
      obtain ⟨eb107, em107, hat, sE107, sG107, sM107, sX107, sQ107⟩ := sE107 i hi1 hi2
      refine dS (ldA X108 hx hZ e108 sA107 rfl (j := ((-q1)).toInt32) (x := (.ref eb107)) hin (by rw [hic]; exact hat) (g := (mkF m 51 #[vj q1, vz] [(.int ((-q1)).toInt32), (.ref sa107)])) rfl rfl (hb hby d11_51)) ?_
      show Aq T108 52 #[vj q1, vz] [(.ref eb107)]
      exact Done.ref X108 hx hlk hret rfl rfl rfl (hb hby d11_52) (by decide) (by decide) ⟨eb107, em107, rfl, N0, (by rw [e108]; exact ⟨(kr h0 []), sE107, (by rw [hisg]; exact sG107), sM107, sX107, (by rw [himl]; exact sQ107)⟩)⟩
    ·refine iY X0 hx hby d11_34 (pc' := 53) ((if0 _ _).trans (flt (fun q_ => c4 ((lw_lt _ _).mp q_))).2.1) (H := ?_)
     obtain ⟨T109, h109, X109, e109, E109, A109, D109, -, st109⟩ := newO X0 hx hZ hown (tw262 hw) (tw182 hw) (tw81 hw) e0 (g := (mkF m 53 #[vj q1, vz] [])) rfl (hb hby d11_53) (by decide) (by decide)
     obtain ⟨b109, gq109⟩ : ∃ z, z = h0.size := ⟨_, rfl⟩
     rw [← gq109] at A109 D109 st109
     have sz_b109 := lb (kr h0 []).1 gq109
     have f110 : Fl6 Z h109 b109 (.int 0) := D109 (Or.inr (tw94 hw)) (ty := .int) (by decide)
     have f111 : Fl5 Z h109 b109 .null := D109 (Or.inr (tw111 hw)) (ty := (.array .int)) (by decide)
     refine dS st109 ?_
     show Aq T109 56 #[vj q1, vz] [(.ref b109)]
     refine dU X109 hx hby d11_56 rfl ?_
     refine jN X109 hx hby d11_57 rfl ?_
     obtain ⟨v112, T112, L112, X112, hQ112, st112⟩ := cI X109 hx hZ hown (tw264 hw) (tw265 hw) (tw81 hw) (tw266 hw) (bij l Z a0 hw [] b109 q1  h109 n0 (lq Z0 E109.1) A109 f110 f111 (lb Z0 gq109) c1) (W := 1) e109 (g := (mkF m 58 #[vj q1, vz] [(.long q1), (.ref b109), (.ref b109)])) rfl hml rfl (argsL := [(.long q1)]) (rest := [(.ref b109)]) (lenOf pd_14 rfl) rfl rfl rfl (hb hby d11_58) rfl
     refine Done.far st112 ?_
     obtain ⟨bv_112, rfl, N112q, K112q, y112_0, y112_1, y112_2, y112_3, y112_4, z112_5⟩ := hQ112
     have sz_bv_112 := lq ((kr h0 []).ext E109).1 z112_5
     show Aq T112 61 #[vj q1, vz] [(.ref b109)]
     exact Done.ref X112 hx hlk hret rfl rfl rfl (hb hby d11_61) (by decide) (by decide) ⟨b109, bv_112, rfl, (Fr.app N0 N112q), ⟨(((kr h0 []).ext E109).trans K112q (allS (Or.inr sz_b109) all0)), y112_0, y112_1, y112_2, y112_3, y112_4⟩⟩
   ·refine iF X0 hx hby d11_21 ((if0 _ _).trans (flt (fun q_ => c3 ((lw_gt _ _).mp q_))).2.2.1) ?_
    obtain ⟨sa113, sc113, sS113, sA113, sE113⟩ := Cst.keep ST.2.2.1 (KO.trans (kr h0 []) all0)
    obtain ⟨T114, X114, e114, st114⟩ := getS2 X0 hx hZ hown (host := "") (Or.inl (tw84 hw)) Via.refl e0 sS113 (g := (mkF m 24 #[vj q1, vz] [])) rfl (hb hby d11_24)
    refine dS st114 ?_
    show Aq T114 27 #[vj q1, vz] [(.ref sa113)]
    refine jN X114 hx hby d11_27 rfl ?_
    refine dS (fun t k => XS.l2i X114.here hx rfl (hb hby d11_28) rfl k) ?_
    show Aq T114 29 #[vj q1, vz] [(.int (q1).toInt32), (.ref sa113)]
    obtain ⟨i, hi1, hi2, hin, hic, hisg, himl⟩ := own_small c2 c3
    obtain ⟨eb113, em113, hat, sE113, sG113, sM113, sX113, sQ113⟩ := sE113 i hi1 hi2
    refine dS (ldA X114 hx hZ e114 sA113 rfl (j := (q1).toInt32) (x := (.ref eb113)) hin (by rw [hic]; exact hat) (g := (mkF m 29 #[vj q1, vz] [(.int (q1).toInt32), (.ref sa113)])) rfl rfl (hb hby d11_29)) ?_
    show Aq T114 30 #[vj q1, vz] [(.ref eb113)]
    exact Done.ref X114 hx hlk hret rfl rfl rfl (hb hby d11_30) (by decide) (by decide) ⟨eb113, em113, rfl, N0, (by rw [e114]; exact ⟨(kr h0 []), sE113, (by rw [hisg]; exact sG113), sM113, sX113, (by rw [himl]; exact sQ113)⟩)⟩
  ·refine iY X0 hx hby d11_13 (pc' := 31) ((if0 _ _).trans (flt (fun q_ => c2 ((lw_gt _ _).mp q_))).2.2.2) (H := ?_)
   refine jN X0 hx hby d11_31 rfl ?_
   refine dS (fun t k => XS.lconst X0.here hx rfl (hb hby d11_32) k) ?_
   show Aq s₁ 33 #[vj q1, vz] [(.long 0), (.long q1)]
   refine dS (fun t k => XS.lcmp X0.here hx rfl (hb hby d11_33) rfl k) ?_
   show Aq s₁ 34 #[vj q1, vz] [(.int (lcmpW q1 (0 : Int64)))]
   by_cases c6 : q1 < (0 : Int64)
   ·refine iF X0 hx hby d11_34 ((if0 _ _).trans (tlt ((lw_lt _ _).mpr c6)).2.1) ?_
    refine jN X0 hx hby d11_37 rfl ?_
    refine dS (X0.ldc2Long hx hown (mvT hZ (tw263 hw)) (g := (mkF m 38 #[vj q1, vz] [(.long q1)])) rfl (hb hby d11_38)) ?_
    show Aq s₁ 41 #[vj q1, vz] [(.long (-16 : Int64)), (.long q1)]
    refine dS (fun t k => XS.lcmp X0.here hx rfl (hb hby d11_41) rfl k) ?_
    show Aq s₁ 42 #[vj q1, vz] [(.int (lcmpW q1 (-16 : Int64)))]
    by_cases c7 : q1 < (-16 : Int64)
    ·refine iY X0 hx hby d11_42 (pc' := 53) ((if0 _ _).trans (tlt ((lw_lt _ _).mpr c7)).1) (H := ?_)
     obtain ⟨T115, h115, X115, e115, E115, A115, D115, -, st115⟩ := newO X0 hx hZ hown (tw262 hw) (tw182 hw) (tw81 hw) e0 (g := (mkF m 53 #[vj q1, vz] [])) rfl (hb hby d11_53) (by decide) (by decide)
     obtain ⟨b115, gq115⟩ : ∃ z, z = h0.size := ⟨_, rfl⟩
     rw [← gq115] at A115 D115 st115
     have sz_b115 := lb (kr h0 []).1 gq115
     have f116 : Fl6 Z h115 b115 (.int 0) := D115 (Or.inr (tw94 hw)) (ty := .int) (by decide)
     have f117 : Fl5 Z h115 b115 .null := D115 (Or.inr (tw111 hw)) (ty := (.array .int)) (by decide)
     refine dS st115 ?_
     show Aq T115 56 #[vj q1, vz] [(.ref b115)]
     refine dU X115 hx hby d11_56 rfl ?_
     refine jN X115 hx hby d11_57 rfl ?_
     obtain ⟨v118, T118, L118, X118, hQ118, st118⟩ := cI X115 hx hZ hown (tw264 hw) (tw265 hw) (tw81 hw) (tw266 hw) (bij l Z a0 hw [] b115 q1  h115 n0 (lq Z0 E115.1) A115 f116 f117 (lb Z0 gq115) c1) (W := 1) e115 (g := (mkF m 58 #[vj q1, vz] [(.long q1), (.ref b115), (.ref b115)])) rfl hml rfl (argsL := [(.long q1)]) (rest := [(.ref b115)]) (lenOf pd_14 rfl) rfl rfl rfl (hb hby d11_58) rfl
     refine Done.far st118 ?_
     obtain ⟨bv_118, rfl, N118q, K118q, y118_0, y118_1, y118_2, y118_3, y118_4, z118_5⟩ := hQ118
     have sz_bv_118 := lq ((kr h0 []).ext E115).1 z118_5
     show Aq T118 61 #[vj q1, vz] [(.ref b115)]
     exact Done.ref X118 hx hlk hret rfl rfl rfl (hb hby d11_61) (by decide) (by decide) ⟨b115, bv_118, rfl, (Fr.app N0 N118q), ⟨(((kr h0 []).ext E115).trans K118q (allS (Or.inr sz_b115) all0)), y118_0, y118_1, y118_2, y118_3, y118_4⟩⟩
    ·refine iF X0 hx hby d11_42 ((if0 _ _).trans (flt (fun q_ => c7 ((lw_lt _ _).mp q_))).1) ?_
     obtain ⟨sa119, sc119, sS119, sA119, sE119⟩ := Cst.keep ST.2.2.2 (KO.trans (kr h0 []) all0)
     obtain ⟨T120, X120, e120, st120⟩ := getS2 X0 hx hZ hown (host := "") (Or.inl (tw283 hw)) Via.refl e0 sS119 (g := (mkF m 45 #[vj q1, vz] [])) rfl (hb hby d11_45)
     refine dS st120 ?_
     show Aq T120 48 #[vj q1, vz] [(.ref sa119)]
     refine jN X120 hx hby d11_48 rfl ?_
     refine dS (fun t k => XS.lneg X120.here hx rfl (hb hby d11_49) rfl k) ?_
     show Aq T120 50 #[vj q1, vz] [(.long (-q1)), (.ref sa119)]
     refine dS (fun t k => XS.l2i X120.here hx rfl (hb hby d11_50) rfl k) ?_
     show Aq T120 51 #[vj q1, vz] [(.int ((-q1)).toInt32), (.ref sa119)]
     obtain ⟨i, hi1, hi2, hin, hic, hisg, himl⟩ := own_smalln c6 c7
     obtain ⟨eb119, em119, hat, sE119, sG119, sM119, sX119, sQ119⟩ := sE119 i hi1 hi2
     refine dS (ldA X120 hx hZ e120 sA119 rfl (j := ((-q1)).toInt32) (x := (.ref eb119)) hin (by rw [hic]; exact hat) (g := (mkF m 51 #[vj q1, vz] [(.int ((-q1)).toInt32), (.ref sa119)])) rfl rfl (hb hby d11_51)) ?_
     show Aq T120 52 #[vj q1, vz] [(.ref eb119)]
     exact Done.ref X120 hx hlk hret rfl rfl rfl (hb hby d11_52) (by decide) (by decide) ⟨eb119, em119, rfl, N0, (by rw [e120]; exact ⟨(kr h0 []), sE119, (by rw [hisg]; exact sG119), sM119, sX119, (by rw [himl]; exact sQ119)⟩)⟩
   ·refine iY X0 hx hby d11_34 (pc' := 53) ((if0 _ _).trans (flt (fun q_ => c6 ((lw_lt _ _).mp q_))).2.1) (H := ?_)
    obtain ⟨T121, h121, X121, e121, E121, A121, D121, -, st121⟩ := newO X0 hx hZ hown (tw262 hw) (tw182 hw) (tw81 hw) e0 (g := (mkF m 53 #[vj q1, vz] [])) rfl (hb hby d11_53) (by decide) (by decide)
    obtain ⟨b121, gq121⟩ : ∃ z, z = h0.size := ⟨_, rfl⟩
    rw [← gq121] at A121 D121 st121
    have sz_b121 := lb (kr h0 []).1 gq121
    have f122 : Fl6 Z h121 b121 (.int 0) := D121 (Or.inr (tw94 hw)) (ty := .int) (by decide)
    have f123 : Fl5 Z h121 b121 .null := D121 (Or.inr (tw111 hw)) (ty := (.array .int)) (by decide)
    refine dS st121 ?_
    show Aq T121 56 #[vj q1, vz] [(.ref b121)]
    refine dU X121 hx hby d11_56 rfl ?_
    refine jN X121 hx hby d11_57 rfl ?_
    obtain ⟨v124, T124, L124, X124, hQ124, st124⟩ := cI X121 hx hZ hown (tw264 hw) (tw265 hw) (tw81 hw) (tw266 hw) (bij l Z a0 hw [] b121 q1  h121 n0 (lq Z0 E121.1) A121 f122 f123 (lb Z0 gq121) c1) (W := 1) e121 (g := (mkF m 58 #[vj q1, vz] [(.long q1), (.ref b121), (.ref b121)])) rfl hml rfl (argsL := [(.long q1)]) (rest := [(.ref b121)]) (lenOf pd_14 rfl) rfl rfl rfl (hb hby d11_58) rfl
    refine Done.far st124 ?_
    obtain ⟨bv_124, rfl, N124q, K124q, y124_0, y124_1, y124_2, y124_3, y124_4, z124_5⟩ := hQ124
    have sz_bv_124 := lq ((kr h0 []).ext E121).1 z124_5
    show Aq T124 61 #[vj q1, vz] [(.ref b121)]
    exact Done.ref X124 hx hlk hret rfl rfl rfl (hb hby d11_61) (by decide) (by decide) ⟨b121, bv_124, rfl, (Fr.app N0 N124q), ⟨(((kr h0 []).ext E121).trans K124q (allS (Or.inr sz_b121) all0)), y124_0, y124_1, y124_2, y124_3, y124_4⟩⟩
theorem d28_11 : dq cd18 11 (.getstatic 54) 3 := by decide +kernel
theorem d28_14 : dq cd18 14 .areturn 1 := by decide +kernel
theorem tbi0 (l : Launch) (Z : State) (a0 : Array Value) (hw : HH a0 Z) (ws : List Jvm.Cond) (a1 : Addr) (p2 : Int32) (hO : Heap) (h0 : Heap) (n0 : Nat) (Z0 : n0 ≤ h0.size) (KO : Keep hO h0 []) (ST : Stat Z hO) (F_a1_intLen : Fl1 Z h0 a1 (.int 0)) : MF l "java/math/MutableBigInteger" "toBigInteger" "(I)Ljava/math/BigInteger;" jdk_2101_method_9_code 2 (some (.object "java/math/BigInteger")) ws ⟨0, 0, 0, 0⟩ Z h0 #[(.ref a1), (.int p2)] (fun v h L => ∃ (gb gm : Addr), v = some (.ref gb) ∧ Fr n0 L ∧ Keep h0 h [] ∧ Fl7 Z h gb ∧ Fl6 Z h gb (.int 0) ∧ Fl5 Z h gb (.ref gm) ∧ Fl4 Z h gm ∧ Ax Z h gm .int []) := by
 refine own_body (n0 := n0) (plainFor_of_name pn_27) (fun m => ef_28 m a1 p2) ?_
 intro p e s m below meth c s₁ hZ hx hby hml hown hlk hret hnm X0 e0 N0
 show Aq s₁ 0 #[vr a1, vi p2] []
 refine aN X0 hx hby d28_0 rfl rfl ?_
 obtain ⟨T101, X101, e101, st101⟩ := gF X0 hx hZ hown (tw112 hw) e0 F_a1_intLen (g := (mkF m 1 #[vr a1, vi p2] [(.ref a1)])) rfl rfl (hb hby d28_1)
 refine dS st101 ?_
 show Aq T101 4 #[vr a1, vi p2] [(.int 0)]
 refine iY X101 hx hby d28_4 (pc' := 11) ((if0 _ _).trans (teq (by decide)).1) (H := ?_)
 obtain ⟨sb102, sm102, sS102, sE102, sG102, sM102, sX102, sA102⟩ := Bst.keep ST.1 (KO.trans (kr h0 []) all0)
 obtain ⟨T103, X103, e103, st103⟩ := getS2 X101 hx hZ hown (host := "") (Or.inl (tw290 hw)) Via.refl e101 sS102 (g := (mkF m 11 #[vr a1, vi p2] [])) rfl (hb hby d28_11)
 refine dS st103 ?_
 show Aq T103 14 #[vr a1, vi p2] [(.ref sb102)]
 exact Done.ref X103 hx hlk hret rfl rfl rfl (hb hby d28_14) (by decide) (by decide) ⟨sb102, sm102, rfl, N0, (by rw [e103]; exact ⟨(kr h0 []), sE102, sG102, sM102, sX102, sA102⟩)⟩
theorem d33_0 : dq cd29 0 (.new 541) 3 := by decide +kernel
theorem d33_3 : dq cd29 3 .dup 1 := by decide +kernel
theorem d33_4 : dq cd29 4 (.invokespecial 543) 3 := by decide +kernel
theorem d33_7 : dq cd29 7 (.astore_n 2) 1 := by decide +kernel
theorem d33_8 : dq cd29 8 (.new 541) 3 := by decide +kernel
theorem d33_11 : dq cd29 11 .dup 1 := by decide +kernel
theorem d33_12 : dq cd29 12 (.aload_n 0) 1 := by decide +kernel
theorem d33_13 : dq cd29 13 (.getfield 28) 3 := by decide +kernel
theorem d33_16 : dq cd29 16 (.invokespecial 544) 3 := by decide +kernel
theorem d33_19 : dq cd29 19 (.astore_n 3) 1 := by decide +kernel
theorem d33_20 : dq cd29 20 (.new 541) 3 := by decide +kernel
theorem d33_23 : dq cd29 23 .dup 1 := by decide +kernel
theorem d33_24 : dq cd29 24 (.aload_n 1) 1 := by decide +kernel
theorem d33_25 : dq cd29 25 (.getfield 28) 3 := by decide +kernel
theorem d33_28 : dq cd29 28 (.invokespecial 544) 3 := by decide +kernel
theorem d33_31 : dq cd29 31 (.astore 4) 2 := by decide +kernel
theorem d33_33 : dq cd29 33 (.aload_n 3) 1 := by decide +kernel
theorem d33_34 : dq cd29 34 (.aload 4) 2 := by decide +kernel
theorem d33_36 : dq cd29 36 (.aload_n 2) 1 := by decide +kernel
theorem d33_37 : dq cd29 37 (.iconst 0) 1 := by decide +kernel
theorem d33_38 : dq cd29 38 (.invokevirtual 545) 3 := by decide +kernel
theorem d33_41 : dq cd29 41 .pop 1 := by decide +kernel
theorem d33_42 : dq cd29 42 (.aload_n 2) 1 := by decide +kernel
theorem d33_43 : dq cd29 43 (.aload_n 0) 1 := by decide +kernel
theorem d33_44 : dq cd29 44 (.getfield 32) 3 := by decide +kernel
theorem d33_47 : dq cd29 47 (.aload_n 1) 1 := by decide +kernel
theorem d33_48 : dq cd29 48 (.getfield 32) 3 := by decide +kernel
theorem d33_51 : dq cd29 51 .imul 1 := by decide +kernel
theorem d33_52 : dq cd29 52 (.invokevirtual 548) 3 := by decide +kernel
theorem d33_55 : dq cd29 55 .areturn 1 := by decide +kernel
theorem ef_33 (m : MethodId) (a1 : Addr) (a2 : Addr) : entryFrame m #[(.ref a1), (.ref a2)] 5 = mkF m 0 #[.val (.ref a1), .val (.ref a2), .unset, .unset, .unset] [] := by first | (simp [entryFrame, mkF, argsToLocals, Value.category]; done) | rfl
theorem bdk0 (l : Launch) (Z : State) (a0 : Array Value) (hw : HH a0 Z) (ws : List Jvm.Cond) (a1 a2 ma mb : Addr) (hO : Heap) (h0 : Heap) (n0 : Nat) (Z0 : n0 ≤ h0.size) (E_a1 : Fl7 Z h0 a1) (F_a1_signum : Fl6 Z h0 a1 (.int 0)) (F_a1_mag : Fl5 Z h0 a1 (.ref ma)) (E_ma : Fl4 Z h0 ma) (A_ma : Ax Z h0 ma .int []) (E_a2 : Fl7 Z h0 a2) (F_a2_signum : Fl6 Z h0 a2 (.int 1)) (F_a2_mag : Fl5 Z h0 a2 (.ref mb)) (E_mb : Fl4 Z h0 mb) (A_mb : Ax Z h0 mb .int [(.int 1)]) (KO : Keep hO h0 []) (ST : Stat Z hO) : MF l "java/math/BigInteger" "divideKnuth" "(Ljava/math/BigInteger;)Ljava/math/BigInteger;" jdk_2097_method_62_code 5 (some (.object "java/math/BigInteger")) ws ⟨2, 4, 10, 26⟩ Z h0 #[(.ref a1), (.ref a2)] (fun v h L => ∃ (gb gm : Addr), v = some (.ref gb) ∧ Fr n0 L ∧ Keep h0 h [] ∧ Fl7 Z h gb ∧ Fl6 Z h gb (.int 0) ∧ Fl5 Z h gb (.ref gm) ∧ Fl4 Z h gm ∧ Ax Z h gm .int []) := by
 refine own_body (n0 := n0) (plainFor_of_name pn_24) (fun m => ef_33 m a1 a2) ?_
 intro p e s m below meth c s₁ hZ hx hby hml hown hlk hret hnm X0 e0 N0
 show Aq s₁ 0 #[vr a1, vr a2, vu, vu, vu] []
 obtain ⟨T101, h101, X101, e101, E101, A101, D101, -, st101⟩ := newO X0 hx hZ hown (tw100 hw) (tw101 hw) (tw102 hw) e0 (g := (mkF m 0 #[vr a1, vr a2, vu, vu, vu] [])) rfl (hb hby d33_0) (by decide) (by decide)
 obtain ⟨b101, gq101⟩ : ∃ z, z = h0.size := ⟨_, rfl⟩
 rw [← gq101] at A101 D101 st101
 have sz_b101 := lb (kr h0 []).1 gq101
 have f102 : Fl2 Z h101 b101 (.int 0) := D101 (Or.inl (tw109 hw)) (ty := .int) (by decide)
 have f103 : Fl1 Z h101 b101 (.int 0) := D101 (Or.inl (tw113 hw)) (ty := .int) (by decide)
 have f104 : Fl0 Z h101 b101 .null := D101 (Or.inl (tw128 hw)) (ty := (.array .int)) (by decide)
 refine dS st101 ?_
 show Aq T101 3 #[vr a1, vr a2, vu, vu, vu] [(.ref b101)]
 refine dU X101 hx hby d33_3 rfl ?_
 obtain ⟨v105, T105, L105, X105, hQ105, st105⟩ := cI X101 hx hZ hown (tw213 hw) (tw136 hw) (tw102 hw) (tw137 hw) (mi0 l Z a0 hw [] b101  h101 n0 (lq Z0 E101.1) A101 f104 f103 f102 (lb Z0 gq101)) (W := 1) e101 (g := (mkF m 4 #[vr a1, vr a2, vu, vu, vu] [(.ref b101), (.ref b101)])) rfl hml rfl (argsL := []) (rest := [(.ref b101)]) (lenOf pd_2 rfl) rfl rfl rfl (hb hby d33_4) rfl
 refine Done.far st105 ?_
 obtain ⟨bv_105, rfl, N105q, K105q, y105_0, y105_1, y105_2, y105_3, y105_4, y105_5, z105_6⟩ := hQ105
 have sz_bv_105 := lq ((kr h0 []).ext E101).1 z105_6
 have ne106 := nl E_a1.lt gq101
 have ne107 := nl E_ma.lt gq101
 have ne108 := nl E_a2.lt gq101
 have ne109 := nl E_mb.lt gq101
 show Aq T105 7 #[vr a1, vr a2, vu, vu, vu] [(.ref b101)]
 refine aT X105 hx hby d33_7 rfl (l' := #[vr a1, vr a2, vr b101, vu, vu]) rfl ?_
 obtain ⟨T110, h110, X110, e110, E110, A110, D110, -, st110⟩ := newO X105 hx hZ hown (tw100 hw) (tw101 hw) (tw102 hw) rfl (g := (mkF m 8 #[vr a1, vr a2, vr b101, vu, vu] [])) rfl (hb hby d33_8) (by decide) (by decide)
 obtain ⟨b110, gq110⟩ : ∃ z, z = T105.heap.size := ⟨_, rfl⟩
 rw [← gq110] at A110 D110 st110
 have sz_b110 := lb (((kr h0 []).ext E101).trans K105q (allS (Or.inr sz_b101) all0)).1 gq110
 have K110 := (((kr h0 []).ext E101).trans K105q (allS (Or.inr sz_b101) all0)).ext E110
 have f111 : Fl2 Z h110 b110 (.int 0) := D110 (Or.inl (tw109 hw)) (ty := .int) (by decide)
 have f112 : Fl1 Z h110 b110 (.int 0) := D110 (Or.inl (tw113 hw)) (ty := .int) (by decide)
 have f113 : Fl0 Z h110 b110 .null := D110 (Or.inl (tw128 hw)) (ty := (.array .int)) (by decide)
 refine dS st110 ?_
 show Aq T110 11 #[vr a1, vr a2, vr b101, vu, vu] [(.ref b110)]
 refine dU X110 hx hby d33_11 rfl ?_
 refine aN X110 hx hby d33_12 rfl rfl ?_
 obtain ⟨T114, X114, e114, st114⟩ := gF X110 hx hZ hown (tw199 hw) e110 (((F_a1_mag.ext E101).keep K105q (ni1 ne106)).ext E110) (g := (mkF m 13 #[vr a1, vr a2, vr b101, vu, vu] [(.ref a1), (.ref b110), (.ref b110)])) rfl rfl (hb hby d33_13)
 refine dS st114 ?_
 show Aq T114 16 #[vr a1, vr a2, vr b101, vu, vu] [(.ref ma), (.ref b110), (.ref b110)]
 have ne116 := nl ((E_ma.ext E101).keep K105q).lt gq110
 obtain ⟨v115, T115, L115, X115, hQ115, st115⟩ := cI X114 hx hZ hown (tw214 hw) (tw215 hw) (tw102 hw) (tw216 hw) (mia0 l Z a0 hw [] b110 ma  h110 n0 (lq (lq (lq Z0 E101.1) K105q.1) E110.1) A110 f113 f112 f111 (lb (lq (lq Z0 E101.1) K105q.1) gq110) (((A_ma.ext E101).keep K105q (ni1 ne107)).ext E110) ne116.symm) (W := 1) e114 (g := (mkF m 16 #[vr a1, vr a2, vr b101, vu, vu] [(.ref ma), (.ref b110), (.ref b110)])) rfl hml rfl (argsL := [(.ref ma)]) (rest := [(.ref b110)]) (lenOf pd_15 rfl) rfl rfl rfl (hb hby d33_16) rfl
 refine Done.far st115 ?_
 obtain ⟨rfl, N115q, K115q, y115_0, y115_1, y115_2, y115_3⟩ := hQ115
 have ne117 := nl ((E_a1.ext E101).keep K105q).lt gq110
 have f118 := (((F_a1_signum.ext E101).keep K105q (ni1 ne106)).ext E110).keep K115q (ni1 ne117)
 have f119 := (((F_a1_mag.ext E101).keep K105q (ni1 ne106)).ext E110).keep K115q (ni1 ne117)
 have f120 := (((A_ma.ext E101).keep K105q (ni1 ne107)).ext E110).keep K115q (ni1 ne116)
 have ne121 := nl ((E_a2.ext E101).keep K105q).lt gq110
 have f122 := (((F_a2_signum.ext E101).keep K105q (ni1 ne108)).ext E110).keep K115q (ni1 ne121)
 have f123 := (((F_a2_mag.ext E101).keep K105q (ni1 ne108)).ext E110).keep K115q (ni1 ne121)
 have ne124 := nl ((E_mb.ext E101).keep K105q).lt gq110
 have f125 := (((A_mb.ext E101).keep K105q (ni1 ne109)).ext E110).keep K115q (ni1 ne124)
 have ne126 := nl y105_0.lt gq110
 have ne127 := nl y105_4.lt gq110
 have Zk115 := lq (lq (lq (lq Z0 E101.1) K105q.1) E110.1) K115q.1
 show Aq T115 19 #[vr a1, vr a2, vr b101, vu, vu] [(.ref b110)]
 refine aT X115 hx hby d33_19 rfl (l' := #[vr a1, vr a2, vr b101, vr b110, vu]) rfl ?_
 obtain ⟨T128, h128, X128, e128, E128, A128, D128, -, st128⟩ := newO X115 hx hZ hown (tw100 hw) (tw101 hw) (tw102 hw) rfl (g := (mkF m 20 #[vr a1, vr a2, vr b101, vr b110, vu] [])) rfl (hb hby d33_20) (by decide) (by decide)
 obtain ⟨b128, gq128⟩ : ∃ z, z = T115.heap.size := ⟨_, rfl⟩
 rw [← gq128] at A128 D128 st128
 have sz_b128 := lb (K110.trans K115q (allS (Or.inr sz_b110) all0)).1 gq128
 have f129 : Fl2 Z h128 b128 (.int 0) := D128 (Or.inl (tw109 hw)) (ty := .int) (by decide)
 have f130 : Fl1 Z h128 b128 (.int 0) := D128 (Or.inl (tw113 hw)) (ty := .int) (by decide)
 have f131 : Fl0 Z h128 b128 .null := D128 (Or.inl (tw128 hw)) (ty := (.array .int)) (by decide)
 refine dS st128 ?_
 show Aq T128 23 #[vr a1, vr a2, vr b101, vr b110, vu] [(.ref b128)]
 refine dU X128 hx hby d33_23 rfl ?_
 refine aN X128 hx hby d33_24 rfl rfl ?_
 obtain ⟨T132, X132, e132, st132⟩ := gF X128 hx hZ hown (tw199 hw) e128 (f123.ext E128) (g := (mkF m 25 #[vr a1, vr a2, vr b101, vr b110, vu] [(.ref a2), (.ref b128), (.ref b128)])) rfl rfl (hb hby d33_25)
 refine dS st132 ?_
 show Aq T132 28 #[vr a1, vr a2, vr b101, vr b110, vu] [(.ref mb), (.ref b128), (.ref b128)]
 have ne134 := nl ((((E_mb.ext E101).keep K105q).ext E110).keep K115q).lt gq128
 obtain ⟨v133, T133, L133, X133, hQ133, st133⟩ := cI X132 hx hZ hown (tw214 hw) (tw215 hw) (tw102 hw) (tw216 hw) (mia1 l Z a0 hw [] b128 mb (1 : Int32) h128 n0 (lq Zk115 E128.1) A128 f131 f130 f129 (lb Zk115 gq128) (f125.ext E128) ne134.symm) (W := 1) e132 (g := (mkF m 28 #[vr a1, vr a2, vr b101, vr b110, vu] [(.ref mb), (.ref b128), (.ref b128)])) rfl hml rfl (argsL := [(.ref mb)]) (rest := [(.ref b128)]) (lenOf pd_15 rfl) rfl rfl rfl (hb hby d33_28) rfl
 refine Done.far st133 ?_
 obtain ⟨rfl, N133q, K133q, y133_0, y133_1, y133_2, y133_3⟩ := hQ133
 have f135 := (((((E_a1.ext E101).keep K105q).ext E110).keep K115q).ext E128).keep K133q
 have ne136 := nl ((((E_a1.ext E101).keep K105q).ext E110).keep K115q).lt gq128
 have f137 := (((((E_ma.ext E101).keep K105q).ext E110).keep K115q).ext E128).keep K133q
 have ne138 := nl ((((E_ma.ext E101).keep K105q).ext E110).keep K115q).lt gq128
 have f139 := (((((E_a2.ext E101).keep K105q).ext E110).keep K115q).ext E128).keep K133q
 have ne140 := nl ((((E_a2.ext E101).keep K105q).ext E110).keep K115q).lt gq128
 have f141 := (((((E_mb.ext E101).keep K105q).ext E110).keep K115q).ext E128).keep K133q
 have ne142 := nl ((y105_0.ext E110).keep K115q).lt gq128
 have f143 := (((y105_1.ext E110).keep K115q (ni1 ne126)).ext E128).keep K133q (ni1 ne142)
 have f144 := (((y105_2.ext E110).keep K115q (ni1 ne126)).ext E128).keep K133q (ni1 ne142)
 have f145 := (((y105_3.ext E110).keep K115q (ni1 ne126)).ext E128).keep K133q (ni1 ne142)
 have ne146 := nl ((y105_4.ext E110).keep K115q (ni1 ne127)).lt gq128
 have f147 := (((y105_4.ext E110).keep K115q (ni1 ne127)).ext E128).keep K133q (ni1 ne146)
 have ne148 := nl y115_0.lt gq128
 have Kk133 := ((K110.trans K115q (allS (Or.inr sz_b110) all0)).ext E128).trans K133q (allS (Or.inr sz_b128) all0)
 show Aq T133 31 #[vr a1, vr a2, vr b101, vr b110, vu] [(.ref b128)]
 refine aS X133 hx hby d33_31 rfl (l' := #[vr a1, vr a2, vr b101, vr b110, vr b128]) rfl ?_
 refine aN X133 hx hby d33_33 rfl rfl ?_
 refine aL X133 hx hby d33_34 rfl rfl ?_
 refine aN X133 hx hby d33_36 rfl rfl ?_
 refine iC X133 hx hby d33_37 (z := 0) rfl ?_
 have ne150 := nz A101.lt z105_6
 have ne151 := nz (E_ma.ext E101).lt z105_6
 have ne152 := nz (E_mb.ext E101).lt z105_6
 obtain ⟨v149, T149, L149, X149, hQ149, st149⟩ := cV X133 hx hZ hown (tw217 hw) (tw218 hw) (tw220 hw) (tw219 hw) (tw102 hw) (tw221 hw) (mdk0 l Z a0 hw [] b110 b128 b101 (0 : Int32) ma mb bv_105 T133.heap n0 (lq (lq Zk115 E128.1) K133q.1) rfl ((y115_0.ext E128).keep K133q) ((y115_1.ext E128).keep K133q (ni1 ne148)) ((y115_2.ext E128).keep K133q (ni1 ne148)) ((y115_3.ext E128).keep K133q (ni1 ne148)) ((f120.ext E128).keep K133q (ni1 ne138)) y133_0 y133_1 y133_2 y133_3 ((f125.ext E128).keep K133q (ni1 ne134)) ((((y105_0.ext E110).keep K115q).ext E128).keep K133q) f143 f144 f145 f147 (lb Z0 gq101) (lq (lq Z0 E101.1) z105_6) ne150 ne126 ne107.symm ne142 ne109.symm ne127 ne151.symm ne146 ne152.symm) (W := 0) rfl ((y115_0.ext E128).keep K133q) (g := (mkF m 38 #[vr a1, vr a2, vr b101, vr b110, vr b128] [(.int 0), (.ref b101), (.ref b128), (.ref b110)])) rfl hml rfl (argsL := [(.ref b128), (.ref b101), (.int 0)]) (rest := []) (lenOf pd_16 rfl) rfl rfl rfl (hb hby d33_38) rfl
 refine Done.far st149 ?_
 obtain ⟨rfl, N149q, K149q, y149_0, y149_1, y149_2, y149_3, y149_4⟩ := hQ149
 have ne153 := nz (E_a1.ext E101).lt z105_6
 have ne154 := nz (E_a2.ext E101).lt z105_6
 have f155 := ((y115_1.ext E128).keep K133q (ni1 ne148)).keep K149q (ni2 ne126.symm ne127.symm)
 have f156 := ((y115_2.ext E128).keep K133q (ni1 ne148)).keep K149q (ni2 ne126.symm ne127.symm)
 have f157 := ((y115_3.ext E128).keep K133q (ni1 ne148)).keep K149q (ni2 ne126.symm ne127.symm)
 have Zk149 := lq (lq (lq Zk115 E128.1) K133q.1) K149q.1
 have Kk149 := Kk133.trans K149q (allS (Or.inr sz_b101) (allS (Or.inr sz_bv_105) all0))
 show Aq T149 41 #[vr a1, vr a2, vr b101, vr b110, vr b128] [.null]
 refine dS (fun t k => XS.pop X149.here hx rfl (hb hby d33_41) rfl rfl k) ?_
 show Aq T149 42 #[vr a1, vr a2, vr b101, vr b110, vr b128] []
 refine aN X149 hx hby d33_42 rfl rfl ?_
 refine aN X149 hx hby d33_43 rfl rfl ?_
 obtain ⟨T158, X158, e158, st158⟩ := gF X149 hx hZ hown (tw93 hw) rfl (((f118.ext E128).keep K133q (ni1 ne136)).keep K149q (ni2 ne106 ne153)) (g := (mkF m 44 #[vr a1, vr a2, vr b101, vr b110, vr b128] [(.ref a1), (.ref b101)])) rfl rfl (hb hby d33_44)
 refine dS st158 ?_
 show Aq T158 47 #[vr a1, vr a2, vr b101, vr b110, vr b128] [(.int 0), (.ref b101)]
 refine aN X158 hx hby d33_47 rfl rfl ?_
 obtain ⟨T159, X159, e159, st159⟩ := gF X158 hx hZ hown (tw93 hw) e158 (((f122.ext E128).keep K133q (ni1 ne140)).keep K149q (ni2 ne108 ne154)) (g := (mkF m 48 #[vr a1, vr a2, vr b101, vr b110, vr b128] [(.ref a2), (.int 0), (.ref b101)])) rfl rfl (hb hby d33_48)
 refine dS st159 ?_
 show Aq T159 51 #[vr a1, vr a2, vr b101, vr b110, vr b128] [(.int 1), (.int 0), (.ref b101)]
 refine dS (fun t k => XS.imul X159.here hx rfl (hb hby d33_51) rfl k) ?_
 show Aq T159 52 #[vr a1, vr a2, vr b101, vr b110, vr b128] [(.int ((0 : Int32) * (1 : Int32))), (.ref b101)]
 rw [show ((0 : Int32) * (1 : Int32)) = (0 : Int32) from by decide]
 obtain ⟨v160, T160, L160, X160, hQ160, st160⟩ := cV X159 hx hZ hown (tw176 hw) (tw177 hw) (tw179 hw) (tw178 hw) (tw102 hw) (tw180 hw) (tbi0 l Z a0 hw [] b101 (0 : Int32) hO T149.heap n0 Zk149 (KO.trans Kk149 all0) ST y149_2) (W := 0) e159 y149_0 (g := (mkF m 52 #[vr a1, vr a2, vr b101, vr b110, vr b128] [(.int 0), (.ref b101)])) rfl hml rfl (argsL := [(.int 0)]) (rest := []) (lenOf pd_12 rfl) rfl rfl rfl (hb hby d33_52) rfl
 refine Done.far st160 ?_
 obtain ⟨gb_160, gm_160, rfl, N160q, K160q, y160_0, y160_1, y160_2, y160_3, y160_4⟩ := hQ160
 have N160 := Fr.app (Fr.app (Fr.app (Fr.app (Fr.app N0 N105q) N115q) N133q) N149q) N160q
 have f161 := (((f118.ext E128).keep K133q (ni1 ne136)).keep K149q (ni2 ne106 ne153)).keep K160q nin0
 have f162 := (((f119.ext E128).keep K133q (ni1 ne136)).keep K149q (ni2 ne106 ne153)).keep K160q nin0
 have f163 := (((f120.ext E128).keep K133q (ni1 ne138)).keep K149q (ni2 ne107 ne151)).keep K160q nin0
 have f164 := (((f122.ext E128).keep K133q (ni1 ne140)).keep K149q (ni2 ne108 ne154)).keep K160q nin0
 have f165 := (((f123.ext E128).keep K133q (ni1 ne140)).keep K149q (ni2 ne108 ne154)).keep K160q nin0
 have f166 := (((f125.ext E128).keep K133q (ni1 ne134)).keep K149q (ni2 ne109 ne152)).keep K160q nin0
 have f167 := (((((y105_5.ext E110).keep K115q).ext E128).keep K133q).keep K149q).keep K160q
 show Aq T160 55 #[vr a1, vr a2, vr b101, vr b110, vr b128] [(.ref gb_160)]
 exact Done.ref X160 hx hlk hret rfl rfl rfl (hb hby d33_55) (by decide) (by decide) ⟨gb_160, gm_160, rfl, N160, ⟨(Kk149.trans K160q all0), y160_0, y160_1, y160_2, y160_3, y160_4⟩⟩
theorem bdk1 (l : Launch) (Z : State) (a0 : Array Value) (hw : HH a0 Z) (ws : List Jvm.Cond) (a1 a2 ma mb : Addr) (sg w0 : Int32) (h0 : Heap) (n0 : Nat) (Z0 : n0 ≤ h0.size) (E_a1 : Fl7 Z h0 a1) (F_a1_signum : Fl6 Z h0 a1 (.int sg)) (F_a1_mag : Fl5 Z h0 a1 (.ref ma)) (E_ma : Fl4 Z h0 ma) (A_ma : Ax Z h0 ma .int [(.int w0)]) (E_a2 : Fl7 Z h0 a2) (F_a2_signum : Fl6 Z h0 a2 (.int 1)) (F_a2_mag : Fl5 Z h0 a2 (.ref mb)) (E_mb : Fl4 Z h0 mb) (A_mb : Ax Z h0 mb .int [(.int 1)]) (hsg : ¬ sg = (0 : Int32)) (hw0 : ¬ w0 = (0 : Int32)) : MF l "java/math/BigInteger" "divideKnuth" "(Ljava/math/BigInteger;)Ljava/math/BigInteger;" jdk_2097_method_62_code 5 (some (.object "java/math/BigInteger")) ws ⟨4, 5, 16, 52⟩ Z h0 #[(.ref a1), (.ref a2)] (fun v h L => ∃ (gb gm : Addr), v = some (.ref gb) ∧ Fr n0 L ∧ Keep h0 h [] ∧ Fl7 Z h gb ∧ Fl6 Z h gb (.int sg) ∧ Fl5 Z h gb (.ref gm) ∧ Fl4 Z h gm ∧ Ax Z h gm .int [(.int w0)]) := by
 refine own_body (n0 := n0) (plainFor_of_name pn_24) (fun m => ef_33 m a1 a2) ?_
 intro p e s m below meth c s₁ hZ hx hby hml hown hlk hret hnm X0 e0 N0
 show Aq s₁ 0 #[vr a1, vr a2, vu, vu, vu] []
 obtain ⟨T101, h101, X101, e101, E101, A101, D101, -, st101⟩ := newO X0 hx hZ hown (tw100 hw) (tw101 hw) (tw102 hw) e0 (g := (mkF m 0 #[vr a1, vr a2, vu, vu, vu] [])) rfl (hb hby d33_0) (by decide) (by decide)
 obtain ⟨b101, gq101⟩ : ∃ z, z = h0.size := ⟨_, rfl⟩
 rw [← gq101] at A101 D101 st101
 have sz_b101 := lb (kr h0 []).1 gq101
 have f102 : Fl2 Z h101 b101 (.int 0) := D101 (Or.inl (tw109 hw)) (ty := .int) (by decide)
 have f103 : Fl1 Z h101 b101 (.int 0) := D101 (Or.inl (tw113 hw)) (ty := .int) (by decide)
 have f104 : Fl0 Z h101 b101 .null := D101 (Or.inl (tw128 hw)) (ty := (.array .int)) (by decide)
 refine dS st101 ?_
 show Aq T101 3 #[vr a1, vr a2, vu, vu, vu] [(.ref b101)]
 refine dU X101 hx hby d33_3 rfl ?_
 obtain ⟨v105, T105, L105, X105, hQ105, st105⟩ := cI X101 hx hZ hown (tw213 hw) (tw136 hw) (tw102 hw) (tw137 hw) (mi0 l Z a0 hw [] b101  h101 n0 (lq Z0 E101.1) A101 f104 f103 f102 (lb Z0 gq101)) (W := 1) e101 (g := (mkF m 4 #[vr a1, vr a2, vu, vu, vu] [(.ref b101), (.ref b101)])) rfl hml rfl (argsL := []) (rest := [(.ref b101)]) (lenOf pd_2 rfl) rfl rfl rfl (hb hby d33_4) rfl
 refine Done.far st105 ?_
 obtain ⟨bv_105, rfl, N105q, K105q, y105_0, y105_1, y105_2, y105_3, y105_4, y105_5, z105_6⟩ := hQ105
 have sz_bv_105 := lq ((kr h0 []).ext E101).1 z105_6
 have ne106 := nl E_a1.lt gq101
 have ne107 := nl E_ma.lt gq101
 have ne108 := nl E_a2.lt gq101
 have ne109 := nl E_mb.lt gq101
 show Aq T105 7 #[vr a1, vr a2, vu, vu, vu] [(.ref b101)]
 refine aT X105 hx hby d33_7 rfl (l' := #[vr a1, vr a2, vr b101, vu, vu]) rfl ?_
 obtain ⟨T110, h110, X110, e110, E110, A110, D110, -, st110⟩ := newO X105 hx hZ hown (tw100 hw) (tw101 hw) (tw102 hw) rfl (g := (mkF m 8 #[vr a1, vr a2, vr b101, vu, vu] [])) rfl (hb hby d33_8) (by decide) (by decide)
 obtain ⟨b110, gq110⟩ : ∃ z, z = T105.heap.size := ⟨_, rfl⟩
 rw [← gq110] at A110 D110 st110
 have sz_b110 := lb (((kr h0 []).ext E101).trans K105q (allS (Or.inr sz_b101) all0)).1 gq110
 have K110 := (((kr h0 []).ext E101).trans K105q (allS (Or.inr sz_b101) all0)).ext E110
 have f111 : Fl2 Z h110 b110 (.int 0) := D110 (Or.inl (tw109 hw)) (ty := .int) (by decide)
 have f112 : Fl1 Z h110 b110 (.int 0) := D110 (Or.inl (tw113 hw)) (ty := .int) (by decide)
 have f113 : Fl0 Z h110 b110 .null := D110 (Or.inl (tw128 hw)) (ty := (.array .int)) (by decide)
 refine dS st110 ?_
 show Aq T110 11 #[vr a1, vr a2, vr b101, vu, vu] [(.ref b110)]
 refine dU X110 hx hby d33_11 rfl ?_
 refine aN X110 hx hby d33_12 rfl rfl ?_
 obtain ⟨T114, X114, e114, st114⟩ := gF X110 hx hZ hown (tw199 hw) e110 (((F_a1_mag.ext E101).keep K105q (ni1 ne106)).ext E110) (g := (mkF m 13 #[vr a1, vr a2, vr b101, vu, vu] [(.ref a1), (.ref b110), (.ref b110)])) rfl rfl (hb hby d33_13)
 refine dS st114 ?_
 show Aq T114 16 #[vr a1, vr a2, vr b101, vu, vu] [(.ref ma), (.ref b110), (.ref b110)]
 have ne116 := nl ((E_ma.ext E101).keep K105q).lt gq110
 obtain ⟨v115, T115, L115, X115, hQ115, st115⟩ := cI X114 hx hZ hown (tw214 hw) (tw215 hw) (tw102 hw) (tw216 hw) (mia1 l Z a0 hw [] b110 ma w0 h110 n0 (lq (lq (lq Z0 E101.1) K105q.1) E110.1) A110 f113 f112 f111 (lb (lq (lq Z0 E101.1) K105q.1) gq110) (((A_ma.ext E101).keep K105q (ni1 ne107)).ext E110) ne116.symm) (W := 1) e114 (g := (mkF m 16 #[vr a1, vr a2, vr b101, vu, vu] [(.ref ma), (.ref b110), (.ref b110)])) rfl hml rfl (argsL := [(.ref ma)]) (rest := [(.ref b110)]) (lenOf pd_15 rfl) rfl rfl rfl (hb hby d33_16) rfl
 refine Done.far st115 ?_
 obtain ⟨rfl, N115q, K115q, y115_0, y115_1, y115_2, y115_3⟩ := hQ115
 have ne117 := nl ((E_a1.ext E101).keep K105q).lt gq110
 have f118 := (((F_a1_signum.ext E101).keep K105q (ni1 ne106)).ext E110).keep K115q (ni1 ne117)
 have f119 := (((F_a1_mag.ext E101).keep K105q (ni1 ne106)).ext E110).keep K115q (ni1 ne117)
 have f120 := (((A_ma.ext E101).keep K105q (ni1 ne107)).ext E110).keep K115q (ni1 ne116)
 have ne121 := nl ((E_a2.ext E101).keep K105q).lt gq110
 have f122 := (((F_a2_signum.ext E101).keep K105q (ni1 ne108)).ext E110).keep K115q (ni1 ne121)
 have f123 := (((F_a2_mag.ext E101).keep K105q (ni1 ne108)).ext E110).keep K115q (ni1 ne121)
 have ne124 := nl ((E_mb.ext E101).keep K105q).lt gq110
 have f125 := (((A_mb.ext E101).keep K105q (ni1 ne109)).ext E110).keep K115q (ni1 ne124)
 have ne126 := nl y105_0.lt gq110
 have ne127 := nl y105_4.lt gq110
 have Zk115 := lq (lq (lq (lq Z0 E101.1) K105q.1) E110.1) K115q.1
 show Aq T115 19 #[vr a1, vr a2, vr b101, vu, vu] [(.ref b110)]
 refine aT X115 hx hby d33_19 rfl (l' := #[vr a1, vr a2, vr b101, vr b110, vu]) rfl ?_
 obtain ⟨T128, h128, X128, e128, E128, A128, D128, -, st128⟩ := newO X115 hx hZ hown (tw100 hw) (tw101 hw) (tw102 hw) rfl (g := (mkF m 20 #[vr a1, vr a2, vr b101, vr b110, vu] [])) rfl (hb hby d33_20) (by decide) (by decide)
 obtain ⟨b128, gq128⟩ : ∃ z, z = T115.heap.size := ⟨_, rfl⟩
 rw [← gq128] at A128 D128 st128
 have sz_b128 := lb (K110.trans K115q (allS (Or.inr sz_b110) all0)).1 gq128
 have f129 : Fl2 Z h128 b128 (.int 0) := D128 (Or.inl (tw109 hw)) (ty := .int) (by decide)
 have f130 : Fl1 Z h128 b128 (.int 0) := D128 (Or.inl (tw113 hw)) (ty := .int) (by decide)
 have f131 : Fl0 Z h128 b128 .null := D128 (Or.inl (tw128 hw)) (ty := (.array .int)) (by decide)
 refine dS st128 ?_
 show Aq T128 23 #[vr a1, vr a2, vr b101, vr b110, vu] [(.ref b128)]
 refine dU X128 hx hby d33_23 rfl ?_
 refine aN X128 hx hby d33_24 rfl rfl ?_
 obtain ⟨T132, X132, e132, st132⟩ := gF X128 hx hZ hown (tw199 hw) e128 (f123.ext E128) (g := (mkF m 25 #[vr a1, vr a2, vr b101, vr b110, vu] [(.ref a2), (.ref b128), (.ref b128)])) rfl rfl (hb hby d33_25)
 refine dS st132 ?_
 show Aq T132 28 #[vr a1, vr a2, vr b101, vr b110, vu] [(.ref mb), (.ref b128), (.ref b128)]
 have ne134 := nl ((((E_mb.ext E101).keep K105q).ext E110).keep K115q).lt gq128
 obtain ⟨v133, T133, L133, X133, hQ133, st133⟩ := cI X132 hx hZ hown (tw214 hw) (tw215 hw) (tw102 hw) (tw216 hw) (mia1 l Z a0 hw [] b128 mb (1 : Int32) h128 n0 (lq Zk115 E128.1) A128 f131 f130 f129 (lb Zk115 gq128) (f125.ext E128) ne134.symm) (W := 1) e132 (g := (mkF m 28 #[vr a1, vr a2, vr b101, vr b110, vu] [(.ref mb), (.ref b128), (.ref b128)])) rfl hml rfl (argsL := [(.ref mb)]) (rest := [(.ref b128)]) (lenOf pd_15 rfl) rfl rfl rfl (hb hby d33_28) rfl
 refine Done.far st133 ?_
 obtain ⟨rfl, N133q, K133q, y133_0, y133_1, y133_2, y133_3⟩ := hQ133
 have f135 := (((((E_a1.ext E101).keep K105q).ext E110).keep K115q).ext E128).keep K133q
 have ne136 := nl ((((E_a1.ext E101).keep K105q).ext E110).keep K115q).lt gq128
 have f137 := (((((E_ma.ext E101).keep K105q).ext E110).keep K115q).ext E128).keep K133q
 have ne138 := nl ((((E_ma.ext E101).keep K105q).ext E110).keep K115q).lt gq128
 have f139 := (((((E_a2.ext E101).keep K105q).ext E110).keep K115q).ext E128).keep K133q
 have ne140 := nl ((((E_a2.ext E101).keep K105q).ext E110).keep K115q).lt gq128
 have f141 := (((((E_mb.ext E101).keep K105q).ext E110).keep K115q).ext E128).keep K133q
 have ne142 := nl ((y105_0.ext E110).keep K115q).lt gq128
 have f143 := (((y105_1.ext E110).keep K115q (ni1 ne126)).ext E128).keep K133q (ni1 ne142)
 have f144 := (((y105_2.ext E110).keep K115q (ni1 ne126)).ext E128).keep K133q (ni1 ne142)
 have f145 := (((y105_3.ext E110).keep K115q (ni1 ne126)).ext E128).keep K133q (ni1 ne142)
 have ne146 := nl ((y105_4.ext E110).keep K115q (ni1 ne127)).lt gq128
 have f147 := (((y105_4.ext E110).keep K115q (ni1 ne127)).ext E128).keep K133q (ni1 ne146)
 have ne148 := nl y115_0.lt gq128
 have Kk133 := ((K110.trans K115q (allS (Or.inr sz_b110) all0)).ext E128).trans K133q (allS (Or.inr sz_b128) all0)
 show Aq T133 31 #[vr a1, vr a2, vr b101, vr b110, vu] [(.ref b128)]
 refine aS X133 hx hby d33_31 rfl (l' := #[vr a1, vr a2, vr b101, vr b110, vr b128]) rfl ?_
 refine aN X133 hx hby d33_33 rfl rfl ?_
 refine aL X133 hx hby d33_34 rfl rfl ?_
 refine aN X133 hx hby d33_36 rfl rfl ?_
 refine iC X133 hx hby d33_37 (z := 0) rfl ?_
 have ne150 := nz A101.lt z105_6
 have ne151 := nz (E_ma.ext E101).lt z105_6
 have ne152 := nz (E_mb.ext E101).lt z105_6
 obtain ⟨v149, T149, L149, X149, hQ149, st149⟩ := cV X133 hx hZ hown (tw217 hw) (tw218 hw) (tw220 hw) (tw219 hw) (tw102 hw) (tw221 hw) (mdk1 l Z a0 hw [] b110 b128 b101 (0 : Int32) ma w0 mb bv_105 T133.heap n0 (lq (lq Zk115 E128.1) K133q.1) rfl ((y115_0.ext E128).keep K133q) ((y115_1.ext E128).keep K133q (ni1 ne148)) ((y115_2.ext E128).keep K133q (ni1 ne148)) ((y115_3.ext E128).keep K133q (ni1 ne148)) ((f120.ext E128).keep K133q (ni1 ne138)) y133_0 y133_1 y133_2 y133_3 ((f125.ext E128).keep K133q (ni1 ne134)) ((((y105_0.ext E110).keep K115q).ext E128).keep K133q) f143 f144 f145 f147 (lb Z0 gq101) (lq (lq Z0 E101.1) z105_6) ne150 ne126 ne107.symm ne142 ne109.symm ne127 ne151.symm ne146 ne152.symm hw0) (W := 0) rfl ((y115_0.ext E128).keep K133q) (g := (mkF m 38 #[vr a1, vr a2, vr b101, vr b110, vr b128] [(.int 0), (.ref b101), (.ref b128), (.ref b110)])) rfl hml rfl (argsL := [(.ref b128), (.ref b101), (.int 0)]) (rest := []) (lenOf pd_16 rfl) rfl rfl rfl (hb hby d33_38) rfl
 refine Done.far st149 ?_
 obtain ⟨rfl, N149q, K149q, y149_0, y149_1, y149_2, y149_3, y149_4⟩ := hQ149
 have ne153 := nz (E_a1.ext E101).lt z105_6
 have ne154 := nz (E_a2.ext E101).lt z105_6
 have f155 := ((y115_1.ext E128).keep K133q (ni1 ne148)).keep K149q (ni2 ne126.symm ne127.symm)
 have f156 := ((y115_2.ext E128).keep K133q (ni1 ne148)).keep K149q (ni2 ne126.symm ne127.symm)
 have f157 := ((y115_3.ext E128).keep K133q (ni1 ne148)).keep K149q (ni2 ne126.symm ne127.symm)
 have Zk149 := lq (lq (lq Zk115 E128.1) K133q.1) K149q.1
 have Kk149 := Kk133.trans K149q (allS (Or.inr sz_b101) (allS (Or.inr sz_bv_105) all0))
 show Aq T149 41 #[vr a1, vr a2, vr b101, vr b110, vr b128] [.null]
 refine dS (fun t k => XS.pop X149.here hx rfl (hb hby d33_41) rfl rfl k) ?_
 show Aq T149 42 #[vr a1, vr a2, vr b101, vr b110, vr b128] []
 refine aN X149 hx hby d33_42 rfl rfl ?_
 refine aN X149 hx hby d33_43 rfl rfl ?_
 obtain ⟨T158, X158, e158, st158⟩ := gF X149 hx hZ hown (tw93 hw) rfl (((f118.ext E128).keep K133q (ni1 ne136)).keep K149q (ni2 ne106 ne153)) (g := (mkF m 44 #[vr a1, vr a2, vr b101, vr b110, vr b128] [(.ref a1), (.ref b101)])) rfl rfl (hb hby d33_44)
 refine dS st158 ?_
 show Aq T158 47 #[vr a1, vr a2, vr b101, vr b110, vr b128] [(.int sg), (.ref b101)]
 refine aN X158 hx hby d33_47 rfl rfl ?_
 obtain ⟨T159, X159, e159, st159⟩ := gF X158 hx hZ hown (tw93 hw) e158 (((f122.ext E128).keep K133q (ni1 ne140)).keep K149q (ni2 ne108 ne154)) (g := (mkF m 48 #[vr a1, vr a2, vr b101, vr b110, vr b128] [(.ref a2), (.int sg), (.ref b101)])) rfl rfl (hb hby d33_48)
 refine dS st159 ?_
 show Aq T159 51 #[vr a1, vr a2, vr b101, vr b110, vr b128] [(.int 1), (.int sg), (.ref b101)]
 refine dS (fun t k => XS.imul X159.here hx rfl (hb hby d33_51) rfl k) ?_
 show Aq T159 52 #[vr a1, vr a2, vr b101, vr b110, vr b128] [(.int (sg * (1 : Int32))), (.ref b101)]
 rw [show (sg * (1 : Int32)) = sg from (Int32.mul_one _)]
 obtain ⟨v160, T160, L160, X160, hQ160, st160⟩ := cV X159 hx hZ hown (tw176 hw) (tw177 hw) (tw179 hw) (tw178 hw) (tw102 hw) (tw180 hw) (tbi1 l Z a0 hw [] b101 sg bv_105 w0 T149.heap n0 Zk149 y149_0 y149_1 y149_2 y149_3 y149_4 hsg) (W := 0) e159 y149_0 (g := (mkF m 52 #[vr a1, vr a2, vr b101, vr b110, vr b128] [(.int sg), (.ref b101)])) rfl hml rfl (argsL := [(.int sg)]) (rest := []) (lenOf pd_12 rfl) rfl rfl rfl (hb hby d33_52) rfl
 refine Done.far st160 ?_
 obtain ⟨bb_160, rfl, N160q, K160q, y160_0, y160_1, y160_2, z160_3⟩ := hQ160
 have N160 := Fr.app (Fr.app (Fr.app (Fr.app (Fr.app N0 N105q) N115q) N133q) N149q) N160q
 have sz_bb_160 := lq Kk149.1 z160_3
 have f161 := (((f118.ext E128).keep K133q (ni1 ne136)).keep K149q (ni2 ne106 ne153)).keep K160q nin0
 have f162 := (((f119.ext E128).keep K133q (ni1 ne136)).keep K149q (ni2 ne106 ne153)).keep K160q nin0
 have f163 := (((f120.ext E128).keep K133q (ni1 ne138)).keep K149q (ni2 ne107 ne151)).keep K160q nin0
 have f164 := (((f122.ext E128).keep K133q (ni1 ne140)).keep K149q (ni2 ne108 ne154)).keep K160q nin0
 have f165 := (((f123.ext E128).keep K133q (ni1 ne140)).keep K149q (ni2 ne108 ne154)).keep K160q nin0
 have f166 := (((f125.ext E128).keep K133q (ni1 ne134)).keep K149q (ni2 ne109 ne152)).keep K160q nin0
 have f167 := (((((y105_5.ext E110).keep K115q).ext E128).keep K133q).keep K149q).keep K160q
 show Aq T160 55 #[vr a1, vr a2, vr b101, vr b110, vr b128] [(.ref bb_160)]
 exact Done.ref X160 hx hlk hret rfl rfl rfl (hb hby d33_55) (by decide) (by decide) ⟨bb_160, bv_105, rfl, N160, ⟨(Kk149.trans K160q all0), y160_0, y160_1, y160_2, f167, (y149_4.keep K160q nin0)⟩⟩
theorem bdk2 (l : Launch) (Z : State) (a0 : Array Value) (hw : HH a0 Z) (ws : List Jvm.Cond) (a1 a2 ma mb : Addr) (sg w0 w1 : Int32) (h0 : Heap) (n0 : Nat) (Z0 : n0 ≤ h0.size) (E_a1 : Fl7 Z h0 a1) (F_a1_signum : Fl6 Z h0 a1 (.int sg)) (F_a1_mag : Fl5 Z h0 a1 (.ref ma)) (E_ma : Fl4 Z h0 ma) (A_ma : Ax Z h0 ma .int [(.int w0), (.int w1)]) (E_a2 : Fl7 Z h0 a2) (F_a2_signum : Fl6 Z h0 a2 (.int 1)) (F_a2_mag : Fl5 Z h0 a2 (.ref mb)) (E_mb : Fl4 Z h0 mb) (A_mb : Ax Z h0 mb .int [(.int 1)]) (hsg : ¬ sg = (0 : Int32)) (hw0 : ¬ w0 = (0 : Int32)) : MF l "java/math/BigInteger" "divideKnuth" "(Ljava/math/BigInteger;)Ljava/math/BigInteger;" jdk_2097_method_62_code 5 (some (.object "java/math/BigInteger")) ws ⟨4, 6, 18, 60⟩ Z h0 #[(.ref a1), (.ref a2)] (fun v h L => ∃ (gb gm : Addr), v = some (.ref gb) ∧ Fr n0 L ∧ Keep h0 h [] ∧ Fl7 Z h gb ∧ Fl6 Z h gb (.int sg) ∧ Fl5 Z h gb (.ref gm) ∧ Fl4 Z h gm ∧ Ax Z h gm .int [(.int w0), (.int w1)]) := by
 refine own_body (n0 := n0) (plainFor_of_name pn_24) (fun m => ef_33 m a1 a2) ?_
 intro p e s m below meth c s₁ hZ hx hby hml hown hlk hret hnm X0 e0 N0
 show Aq s₁ 0 #[vr a1, vr a2, vu, vu, vu] []
 obtain ⟨T101, h101, X101, e101, E101, A101, D101, -, st101⟩ := newO X0 hx hZ hown (tw100 hw) (tw101 hw) (tw102 hw) e0 (g := (mkF m 0 #[vr a1, vr a2, vu, vu, vu] [])) rfl (hb hby d33_0) (by decide) (by decide)
 obtain ⟨b101, gq101⟩ : ∃ z, z = h0.size := ⟨_, rfl⟩
 rw [← gq101] at A101 D101 st101
 have sz_b101 := lb (kr h0 []).1 gq101
 have f102 : Fl2 Z h101 b101 (.int 0) := D101 (Or.inl (tw109 hw)) (ty := .int) (by decide)
 have f103 : Fl1 Z h101 b101 (.int 0) := D101 (Or.inl (tw113 hw)) (ty := .int) (by decide)
 have f104 : Fl0 Z h101 b101 .null := D101 (Or.inl (tw128 hw)) (ty := (.array .int)) (by decide)
 refine dS st101 ?_
 show Aq T101 3 #[vr a1, vr a2, vu, vu, vu] [(.ref b101)]
 refine dU X101 hx hby d33_3 rfl ?_
 obtain ⟨v105, T105, L105, X105, hQ105, st105⟩ := cI X101 hx hZ hown (tw213 hw) (tw136 hw) (tw102 hw) (tw137 hw) (mi0 l Z a0 hw [] b101  h101 n0 (lq Z0 E101.1) A101 f104 f103 f102 (lb Z0 gq101)) (W := 1) e101 (g := (mkF m 4 #[vr a1, vr a2, vu, vu, vu] [(.ref b101), (.ref b101)])) rfl hml rfl (argsL := []) (rest := [(.ref b101)]) (lenOf pd_2 rfl) rfl rfl rfl (hb hby d33_4) rfl
 refine Done.far st105 ?_
 obtain ⟨bv_105, rfl, N105q, K105q, y105_0, y105_1, y105_2, y105_3, y105_4, y105_5, z105_6⟩ := hQ105
 have sz_bv_105 := lq ((kr h0 []).ext E101).1 z105_6
 have ne106 := nl E_a1.lt gq101
 have ne107 := nl E_ma.lt gq101
 have ne108 := nl E_a2.lt gq101
 have ne109 := nl E_mb.lt gq101
 show Aq T105 7 #[vr a1, vr a2, vu, vu, vu] [(.ref b101)]
 refine aT X105 hx hby d33_7 rfl (l' := #[vr a1, vr a2, vr b101, vu, vu]) rfl ?_
 obtain ⟨T110, h110, X110, e110, E110, A110, D110, -, st110⟩ := newO X105 hx hZ hown (tw100 hw) (tw101 hw) (tw102 hw) rfl (g := (mkF m 8 #[vr a1, vr a2, vr b101, vu, vu] [])) rfl (hb hby d33_8) (by decide) (by decide)
 obtain ⟨b110, gq110⟩ : ∃ z, z = T105.heap.size := ⟨_, rfl⟩
 rw [← gq110] at A110 D110 st110
 have sz_b110 := lb (((kr h0 []).ext E101).trans K105q (allS (Or.inr sz_b101) all0)).1 gq110
 have K110 := (((kr h0 []).ext E101).trans K105q (allS (Or.inr sz_b101) all0)).ext E110
 have f111 : Fl2 Z h110 b110 (.int 0) := D110 (Or.inl (tw109 hw)) (ty := .int) (by decide)
 have f112 : Fl1 Z h110 b110 (.int 0) := D110 (Or.inl (tw113 hw)) (ty := .int) (by decide)
 have f113 : Fl0 Z h110 b110 .null := D110 (Or.inl (tw128 hw)) (ty := (.array .int)) (by decide)
 refine dS st110 ?_
 show Aq T110 11 #[vr a1, vr a2, vr b101, vu, vu] [(.ref b110)]
 refine dU X110 hx hby d33_11 rfl ?_
 refine aN X110 hx hby d33_12 rfl rfl ?_
 obtain ⟨T114, X114, e114, st114⟩ := gF X110 hx hZ hown (tw199 hw) e110 (((F_a1_mag.ext E101).keep K105q (ni1 ne106)).ext E110) (g := (mkF m 13 #[vr a1, vr a2, vr b101, vu, vu] [(.ref a1), (.ref b110), (.ref b110)])) rfl rfl (hb hby d33_13)
 refine dS st114 ?_
 show Aq T114 16 #[vr a1, vr a2, vr b101, vu, vu] [(.ref ma), (.ref b110), (.ref b110)]
 have ne116 := nl ((E_ma.ext E101).keep K105q).lt gq110
 obtain ⟨v115, T115, L115, X115, hQ115, st115⟩ := cI X114 hx hZ hown (tw214 hw) (tw215 hw) (tw102 hw) (tw216 hw) (mia2 l Z a0 hw [] b110 ma w0 w1 h110 n0 (lq (lq (lq Z0 E101.1) K105q.1) E110.1) A110 f113 f112 f111 (lb (lq (lq Z0 E101.1) K105q.1) gq110) (((A_ma.ext E101).keep K105q (ni1 ne107)).ext E110) ne116.symm) (W := 1) e114 (g := (mkF m 16 #[vr a1, vr a2, vr b101, vu, vu] [(.ref ma), (.ref b110), (.ref b110)])) rfl hml rfl (argsL := [(.ref ma)]) (rest := [(.ref b110)]) (lenOf pd_15 rfl) rfl rfl rfl (hb hby d33_16) rfl
 refine Done.far st115 ?_
 obtain ⟨rfl, N115q, K115q, y115_0, y115_1, y115_2, y115_3⟩ := hQ115
 have ne117 := nl ((E_a1.ext E101).keep K105q).lt gq110
 have f118 := (((F_a1_signum.ext E101).keep K105q (ni1 ne106)).ext E110).keep K115q (ni1 ne117)
 have f119 := (((F_a1_mag.ext E101).keep K105q (ni1 ne106)).ext E110).keep K115q (ni1 ne117)
 have f120 := (((A_ma.ext E101).keep K105q (ni1 ne107)).ext E110).keep K115q (ni1 ne116)
 have ne121 := nl ((E_a2.ext E101).keep K105q).lt gq110
 have f122 := (((F_a2_signum.ext E101).keep K105q (ni1 ne108)).ext E110).keep K115q (ni1 ne121)
 have f123 := (((F_a2_mag.ext E101).keep K105q (ni1 ne108)).ext E110).keep K115q (ni1 ne121)
 have ne124 := nl ((E_mb.ext E101).keep K105q).lt gq110
 have f125 := (((A_mb.ext E101).keep K105q (ni1 ne109)).ext E110).keep K115q (ni1 ne124)
 have ne126 := nl y105_0.lt gq110
 have ne127 := nl y105_4.lt gq110
 have Zk115 := lq (lq (lq (lq Z0 E101.1) K105q.1) E110.1) K115q.1
 show Aq T115 19 #[vr a1, vr a2, vr b101, vu, vu] [(.ref b110)]
 refine aT X115 hx hby d33_19 rfl (l' := #[vr a1, vr a2, vr b101, vr b110, vu]) rfl ?_
 obtain ⟨T128, h128, X128, e128, E128, A128, D128, -, st128⟩ := newO X115 hx hZ hown (tw100 hw) (tw101 hw) (tw102 hw) rfl (g := (mkF m 20 #[vr a1, vr a2, vr b101, vr b110, vu] [])) rfl (hb hby d33_20) (by decide) (by decide)
 obtain ⟨b128, gq128⟩ : ∃ z, z = T115.heap.size := ⟨_, rfl⟩
 rw [← gq128] at A128 D128 st128
 have sz_b128 := lb (K110.trans K115q (allS (Or.inr sz_b110) all0)).1 gq128
 have f129 : Fl2 Z h128 b128 (.int 0) := D128 (Or.inl (tw109 hw)) (ty := .int) (by decide)
 have f130 : Fl1 Z h128 b128 (.int 0) := D128 (Or.inl (tw113 hw)) (ty := .int) (by decide)
 have f131 : Fl0 Z h128 b128 .null := D128 (Or.inl (tw128 hw)) (ty := (.array .int)) (by decide)
 refine dS st128 ?_
 show Aq T128 23 #[vr a1, vr a2, vr b101, vr b110, vu] [(.ref b128)]
 refine dU X128 hx hby d33_23 rfl ?_
 refine aN X128 hx hby d33_24 rfl rfl ?_
 obtain ⟨T132, X132, e132, st132⟩ := gF X128 hx hZ hown (tw199 hw) e128 (f123.ext E128) (g := (mkF m 25 #[vr a1, vr a2, vr b101, vr b110, vu] [(.ref a2), (.ref b128), (.ref b128)])) rfl rfl (hb hby d33_25)
 refine dS st132 ?_
 show Aq T132 28 #[vr a1, vr a2, vr b101, vr b110, vu] [(.ref mb), (.ref b128), (.ref b128)]
 have ne134 := nl ((((E_mb.ext E101).keep K105q).ext E110).keep K115q).lt gq128
 obtain ⟨v133, T133, L133, X133, hQ133, st133⟩ := cI X132 hx hZ hown (tw214 hw) (tw215 hw) (tw102 hw) (tw216 hw) (mia1 l Z a0 hw [] b128 mb (1 : Int32) h128 n0 (lq Zk115 E128.1) A128 f131 f130 f129 (lb Zk115 gq128) (f125.ext E128) ne134.symm) (W := 1) e132 (g := (mkF m 28 #[vr a1, vr a2, vr b101, vr b110, vu] [(.ref mb), (.ref b128), (.ref b128)])) rfl hml rfl (argsL := [(.ref mb)]) (rest := [(.ref b128)]) (lenOf pd_15 rfl) rfl rfl rfl (hb hby d33_28) rfl
 refine Done.far st133 ?_
 obtain ⟨rfl, N133q, K133q, y133_0, y133_1, y133_2, y133_3⟩ := hQ133
 have f135 := (((((E_a1.ext E101).keep K105q).ext E110).keep K115q).ext E128).keep K133q
 have ne136 := nl ((((E_a1.ext E101).keep K105q).ext E110).keep K115q).lt gq128
 have f137 := (((((E_ma.ext E101).keep K105q).ext E110).keep K115q).ext E128).keep K133q
 have ne138 := nl ((((E_ma.ext E101).keep K105q).ext E110).keep K115q).lt gq128
 have f139 := (((((E_a2.ext E101).keep K105q).ext E110).keep K115q).ext E128).keep K133q
 have ne140 := nl ((((E_a2.ext E101).keep K105q).ext E110).keep K115q).lt gq128
 have f141 := (((((E_mb.ext E101).keep K105q).ext E110).keep K115q).ext E128).keep K133q
 have ne142 := nl ((y105_0.ext E110).keep K115q).lt gq128
 have f143 := (((y105_1.ext E110).keep K115q (ni1 ne126)).ext E128).keep K133q (ni1 ne142)
 have f144 := (((y105_2.ext E110).keep K115q (ni1 ne126)).ext E128).keep K133q (ni1 ne142)
 have f145 := (((y105_3.ext E110).keep K115q (ni1 ne126)).ext E128).keep K133q (ni1 ne142)
 have ne146 := nl ((y105_4.ext E110).keep K115q (ni1 ne127)).lt gq128
 have f147 := (((y105_4.ext E110).keep K115q (ni1 ne127)).ext E128).keep K133q (ni1 ne146)
 have ne148 := nl y115_0.lt gq128
 have Kk133 := ((K110.trans K115q (allS (Or.inr sz_b110) all0)).ext E128).trans K133q (allS (Or.inr sz_b128) all0)
 show Aq T133 31 #[vr a1, vr a2, vr b101, vr b110, vu] [(.ref b128)]
 refine aS X133 hx hby d33_31 rfl (l' := #[vr a1, vr a2, vr b101, vr b110, vr b128]) rfl ?_
 refine aN X133 hx hby d33_33 rfl rfl ?_
 refine aL X133 hx hby d33_34 rfl rfl ?_
 refine aN X133 hx hby d33_36 rfl rfl ?_
 refine iC X133 hx hby d33_37 (z := 0) rfl ?_
 have ne150 := nz A101.lt z105_6
 have ne151 := nz (E_ma.ext E101).lt z105_6
 have ne152 := nz (E_mb.ext E101).lt z105_6
 obtain ⟨v149, T149, L149, X149, hQ149, st149⟩ := cV X133 hx hZ hown (tw217 hw) (tw218 hw) (tw220 hw) (tw219 hw) (tw102 hw) (tw221 hw) (mdk2 l Z a0 hw [] b110 b128 b101 (0 : Int32) ma w0 w1 mb bv_105 T133.heap n0 (lq (lq Zk115 E128.1) K133q.1) rfl ((y115_0.ext E128).keep K133q) ((y115_1.ext E128).keep K133q (ni1 ne148)) ((y115_2.ext E128).keep K133q (ni1 ne148)) ((y115_3.ext E128).keep K133q (ni1 ne148)) ((f120.ext E128).keep K133q (ni1 ne138)) y133_0 y133_1 y133_2 y133_3 ((f125.ext E128).keep K133q (ni1 ne134)) ((((y105_0.ext E110).keep K115q).ext E128).keep K133q) f143 f144 f145 f147 (lb Z0 gq101) (lq (lq Z0 E101.1) z105_6) ne150 ne126 ne107.symm ne142 ne109.symm ne127 ne151.symm ne146 ne152.symm hw0) (W := 0) rfl ((y115_0.ext E128).keep K133q) (g := (mkF m 38 #[vr a1, vr a2, vr b101, vr b110, vr b128] [(.int 0), (.ref b101), (.ref b128), (.ref b110)])) rfl hml rfl (argsL := [(.ref b128), (.ref b101), (.int 0)]) (rest := []) (lenOf pd_16 rfl) rfl rfl rfl (hb hby d33_38) rfl
 refine Done.far st149 ?_
 obtain ⟨bv_149, rfl, N149q, K149q, y149_0, y149_1, y149_2, y149_3, y149_4, y149_5, z149_6⟩ := hQ149
 have sz_bv_149 := lq Kk133.1 z149_6
 have ne153 := nz (E_a1.ext E101).lt z105_6
 have ne154 := nz (E_a2.ext E101).lt z105_6
 have f155 := ((y115_1.ext E128).keep K133q (ni1 ne148)).keep K149q (ni2 ne126.symm ne127.symm)
 have f156 := ((y115_2.ext E128).keep K133q (ni1 ne148)).keep K149q (ni2 ne126.symm ne127.symm)
 have f157 := ((y115_3.ext E128).keep K133q (ni1 ne148)).keep K149q (ni2 ne126.symm ne127.symm)
 have Zk149 := lq (lq (lq Zk115 E128.1) K133q.1) K149q.1
 have Kk149 := Kk133.trans K149q (allS (Or.inr sz_b101) (allS (Or.inr sz_bv_105) all0))
 show Aq T149 41 #[vr a1, vr a2, vr b101, vr b110, vr b128] [.null]
 refine dS (fun t k => XS.pop X149.here hx rfl (hb hby d33_41) rfl rfl k) ?_
 show Aq T149 42 #[vr a1, vr a2, vr b101, vr b110, vr b128] []
 refine aN X149 hx hby d33_42 rfl rfl ?_
 refine aN X149 hx hby d33_43 rfl rfl ?_
 obtain ⟨T158, X158, e158, st158⟩ := gF X149 hx hZ hown (tw93 hw) rfl (((f118.ext E128).keep K133q (ni1 ne136)).keep K149q (ni2 ne106 ne153)) (g := (mkF m 44 #[vr a1, vr a2, vr b101, vr b110, vr b128] [(.ref a1), (.ref b101)])) rfl rfl (hb hby d33_44)
 refine dS st158 ?_
 show Aq T158 47 #[vr a1, vr a2, vr b101, vr b110, vr b128] [(.int sg), (.ref b101)]
 refine aN X158 hx hby d33_47 rfl rfl ?_
 obtain ⟨T159, X159, e159, st159⟩ := gF X158 hx hZ hown (tw93 hw) e158 (((f122.ext E128).keep K133q (ni1 ne140)).keep K149q (ni2 ne108 ne154)) (g := (mkF m 48 #[vr a1, vr a2, vr b101, vr b110, vr b128] [(.ref a2), (.int sg), (.ref b101)])) rfl rfl (hb hby d33_48)
 refine dS st159 ?_
 show Aq T159 51 #[vr a1, vr a2, vr b101, vr b110, vr b128] [(.int 1), (.int sg), (.ref b101)]
 refine dS (fun t k => XS.imul X159.here hx rfl (hb hby d33_51) rfl k) ?_
 show Aq T159 52 #[vr a1, vr a2, vr b101, vr b110, vr b128] [(.int (sg * (1 : Int32))), (.ref b101)]
 rw [show (sg * (1 : Int32)) = sg from (Int32.mul_one _)]
 obtain ⟨v160, T160, L160, X160, hQ160, st160⟩ := cV X159 hx hZ hown (tw176 hw) (tw177 hw) (tw179 hw) (tw178 hw) (tw102 hw) (tw180 hw) (tbi2 l Z a0 hw [] b101 sg bv_149 w0 w1 T149.heap n0 Zk149 y149_0 y149_1 y149_2 y149_3 y149_4 hsg) (W := 0) e159 y149_0 (g := (mkF m 52 #[vr a1, vr a2, vr b101, vr b110, vr b128] [(.int sg), (.ref b101)])) rfl hml rfl (argsL := [(.int sg)]) (rest := []) (lenOf pd_12 rfl) rfl rfl rfl (hb hby d33_52) rfl
 refine Done.far st160 ?_
 obtain ⟨bb_160, rfl, N160q, K160q, y160_0, y160_1, y160_2, z160_3⟩ := hQ160
 have N160 := Fr.app (Fr.app (Fr.app (Fr.app (Fr.app N0 N105q) N115q) N133q) N149q) N160q
 have sz_bb_160 := lq Kk149.1 z160_3
 have f161 := (((f118.ext E128).keep K133q (ni1 ne136)).keep K149q (ni2 ne106 ne153)).keep K160q nin0
 have f162 := (((f119.ext E128).keep K133q (ni1 ne136)).keep K149q (ni2 ne106 ne153)).keep K160q nin0
 have f163 := (((f120.ext E128).keep K133q (ni1 ne138)).keep K149q (ni2 ne107 ne151)).keep K160q nin0
 have f164 := (((f122.ext E128).keep K133q (ni1 ne140)).keep K149q (ni2 ne108 ne154)).keep K160q nin0
 have f165 := (((f123.ext E128).keep K133q (ni1 ne140)).keep K149q (ni2 ne108 ne154)).keep K160q nin0
 have f166 := (((f125.ext E128).keep K133q (ni1 ne134)).keep K149q (ni2 ne109 ne152)).keep K160q nin0
 have f167 := (((((y105_5.ext E110).keep K115q).ext E128).keep K133q).keep K149q).keep K160q
 show Aq T160 55 #[vr a1, vr a2, vr b101, vr b110, vr b128] [(.ref bb_160)]
 exact Done.ref X160 hx hlk hret rfl rfl rfl (hb hby d33_55) (by decide) (by decide) ⟨bb_160, bv_149, rfl, N160, ⟨(Kk149.trans K160q all0), y160_0, y160_1, y160_2, (y149_5.keep K160q), (y149_4.keep K160q nin0)⟩⟩
theorem d32_0 : dq cd30 0 (.aload_n 1) 1 := by decide +kernel
theorem d32_1 : dq cd30 1 (.getfield 28) 3 := by decide +kernel
theorem d32_4 : dq cd30 4 .arraylength 1 := by decide +kernel
theorem d32_5 : dq cd30 5 (.bipush 80) 2 := by decide +kernel
theorem d32_7 : dq cd30 7 (.if_icmp .lt 19) 3 := by decide +kernel
theorem d32_26 : dq cd30 26 (.aload_n 0) 1 := by decide +kernel
theorem d32_27 : dq cd30 27 (.aload_n 1) 1 := by decide +kernel
theorem d32_28 : dq cd30 28 (.invokevirtual 535) 3 := by decide +kernel
theorem d32_31 : dq cd30 31 .areturn 1 := by decide +kernel
theorem ef_32 (m : MethodId) (a1 : Addr) (a2 : Addr) : entryFrame m #[(.ref a1), (.ref a2)] 2 = mkF m 0 #[.val (.ref a1), .val (.ref a2)] [] := by first | (simp [entryFrame, mkF, argsToLocals, Value.category]; done) | rfl
theorem divj (l : Launch) (Z : State) (a0 : Array Value) (hw : HH a0 Z) (ws : List Jvm.Cond) (a1 a2 ma mb : Addr) (sg : Int32) (ml : List Int32) (hO : Heap) (h0 : Heap) (n0 : Nat) (Z0 : n0 ≤ h0.size) (E_a1 : Fl7 Z h0 a1) (F_a1_signum : Fl6 Z h0 a1 (.int sg)) (F_a1_mag : Fl5 Z h0 a1 (.ref ma)) (E_ma : Fl4 Z h0 ma) (A_ma : Ax Z h0 ma .int (ml.map Value.int)) (E_a2 : Fl7 Z h0 a2) (F_a2_signum : Fl6 Z h0 a2 (.int 1)) (F_a2_mag : Fl5 Z h0 a2 (.ref mb)) (E_mb : Fl4 Z h0 mb) (A_mb : Ax Z h0 mb .int [(.int 1)]) (KO : Keep hO h0 []) (ST : Stat Z hO) (hsh : Sh sg ml) : MF l "java/math/BigInteger" "divide" "(Ljava/math/BigInteger;)Ljava/math/BigInteger;" jdk_2097_method_61_code 2 (some (.object "java/math/BigInteger")) ws ⟨5, 6, 18, 76⟩ Z h0 #[(.ref a1), (.ref a2)] (fun v h L => ∃ (gb gm : Addr), v = some (.ref gb) ∧ Fr n0 L ∧ Keep h0 h [] ∧ Fl7 Z h gb ∧ Fl6 Z h gb (.int sg) ∧ Fl5 Z h gb (.ref gm) ∧ Fl4 Z h gm ∧ Ax Z h gm .int (ml.map Value.int)) := by
 refine own_body (n0 := n0) (plainFor_of_name pn_24) (fun m => ef_32 m a1 a2) ?_
 intro p e s m below meth c s₁ hZ hx hby hml hown hlk hret hnm X0 e0 N0
 show Aq s₁ 0 #[vr a1, vr a2] []
 obtain ⟨rfl, rfl⟩ | ⟨hsg, w0, hw0, rfl⟩ | ⟨hsg, w0, w1, hw0, rfl⟩ := hsh
 ·have f101 : Ax Z h0 ma .int [] := A_ma
  show Aq s₁ 0 #[vr a1, vr a2] []
  refine aN X0 hx hby d32_0 rfl rfl ?_
  obtain ⟨T102, X102, e102, st102⟩ := gF X0 hx hZ hown (tw199 hw) e0 F_a2_mag (g := (mkF m 1 #[vr a1, vr a2] [(.ref a2)])) rfl rfl (hb hby d32_1)
  refine dS st102 ?_
  show Aq T102 4 #[vr a1, vr a2] [(.ref mb)]
  refine dS (lenA X102 hx hZ e102 A_mb (n := (1 : Int32)) rfl (g := (mkF m 4 #[vr a1, vr a2] [(.ref mb)])) rfl rfl (hb hby d32_4)) ?_
  show Aq T102 5 #[vr a1, vr a2] [(.int 1)]
  refine iB X102 hx hby d32_5 (z := 80) rfl ?_
  refine cY X102 hx hby d32_7 (pc' := 26) (tlt (by decide)).1 (H := ?_)
  refine aN X102 hx hby d32_26 rfl rfl ?_
  refine aN X102 hx hby d32_27 rfl rfl ?_
  obtain ⟨v103, T103, L103, X103, hQ103, st103⟩ := cP X102 hx hZ hown (tw208 hw) (tw209 hw) (tw211 hw) (tw210 hw) (tw81 hw) (tw212 hw) (bdk0 l Z a0 hw [] a1 a2 ma mb hO h0 n0 Z0 E_a1 F_a1_signum F_a1_mag E_ma f101 E_a2 F_a2_signum F_a2_mag E_mb A_mb (KO.trans (kr h0 []) all0) ST) (W := 0) e102 E_a1 (g := (mkF m 28 #[vr a1, vr a2] [(.ref a2), (.ref a1)])) rfl hml rfl (argsL := [(.ref a2)]) (rest := []) (lenOf pd_17 rfl) rfl rfl rfl (hb hby d32_28) rfl
  refine Done.far st103 ?_
  obtain ⟨gb_103, gm_103, rfl, N103q, K103q, y103_0, y103_1, y103_2, y103_3, y103_4⟩ := hQ103
  show Aq T103 31 #[vr a1, vr a2] [(.ref gb_103)]
  exact Done.ref X103 hx hlk hret rfl rfl rfl (hb hby d32_31) (by decide) (by decide) ⟨gb_103, gm_103, rfl, (Fr.app N0 N103q), ⟨((kr h0 []).trans K103q all0), y103_0, y103_1, y103_2, y103_3, y103_4⟩⟩
 ·have f104 : Ax Z h0 ma .int [(.int w0)] := A_ma
  show Aq s₁ 0 #[vr a1, vr a2] []
  refine aN X0 hx hby d32_0 rfl rfl ?_
  obtain ⟨T105, X105, e105, st105⟩ := gF X0 hx hZ hown (tw199 hw) e0 F_a2_mag (g := (mkF m 1 #[vr a1, vr a2] [(.ref a2)])) rfl rfl (hb hby d32_1)
  refine dS st105 ?_
  show Aq T105 4 #[vr a1, vr a2] [(.ref mb)]
  refine dS (lenA X105 hx hZ e105 A_mb (n := (1 : Int32)) rfl (g := (mkF m 4 #[vr a1, vr a2] [(.ref mb)])) rfl rfl (hb hby d32_4)) ?_
  show Aq T105 5 #[vr a1, vr a2] [(.int 1)]
  refine iB X105 hx hby d32_5 (z := 80) rfl ?_
  refine cY X105 hx hby d32_7 (pc' := 26) (tlt (by decide)).1 (H := ?_)
  refine aN X105 hx hby d32_26 rfl rfl ?_
  refine aN X105 hx hby d32_27 rfl rfl ?_
  obtain ⟨v106, T106, L106, X106, hQ106, st106⟩ := cP X105 hx hZ hown (tw208 hw) (tw209 hw) (tw211 hw) (tw210 hw) (tw81 hw) (tw212 hw) (bdk1 l Z a0 hw [] a1 a2 ma mb sg w0 h0 n0 Z0 E_a1 F_a1_signum F_a1_mag E_ma f104 E_a2 F_a2_signum F_a2_mag E_mb A_mb hsg hw0) (W := 0) e105 E_a1 (g := (mkF m 28 #[vr a1, vr a2] [(.ref a2), (.ref a1)])) rfl hml rfl (argsL := [(.ref a2)]) (rest := []) (lenOf pd_17 rfl) rfl rfl rfl (hb hby d32_28) rfl
  refine Done.far st106 ?_
  obtain ⟨gb_106, gm_106, rfl, N106q, K106q, y106_0, y106_1, y106_2, y106_3, y106_4⟩ := hQ106
  show Aq T106 31 #[vr a1, vr a2] [(.ref gb_106)]
  exact Done.ref X106 hx hlk hret rfl rfl rfl (hb hby d32_31) (by decide) (by decide) ⟨gb_106, gm_106, rfl, (Fr.app N0 N106q), ⟨((kr h0 []).trans K106q all0), y106_0, y106_1, y106_2, y106_3, y106_4⟩⟩
 ·have f107 : Ax Z h0 ma .int [(.int w0), (.int w1)] := A_ma
  show Aq s₁ 0 #[vr a1, vr a2] []
  refine aN X0 hx hby d32_0 rfl rfl ?_
  obtain ⟨T108, X108, e108, st108⟩ := gF X0 hx hZ hown (tw199 hw) e0 F_a2_mag (g := (mkF m 1 #[vr a1, vr a2] [(.ref a2)])) rfl rfl (hb hby d32_1)
  refine dS st108 ?_
  show Aq T108 4 #[vr a1, vr a2] [(.ref mb)]
  refine dS (lenA X108 hx hZ e108 A_mb (n := (1 : Int32)) rfl (g := (mkF m 4 #[vr a1, vr a2] [(.ref mb)])) rfl rfl (hb hby d32_4)) ?_
  show Aq T108 5 #[vr a1, vr a2] [(.int 1)]
  refine iB X108 hx hby d32_5 (z := 80) rfl ?_
  refine cY X108 hx hby d32_7 (pc' := 26) (tlt (by decide)).1 (H := ?_)
  refine aN X108 hx hby d32_26 rfl rfl ?_
  refine aN X108 hx hby d32_27 rfl rfl ?_
  obtain ⟨v109, T109, L109, X109, hQ109, st109⟩ := cP X108 hx hZ hown (tw208 hw) (tw209 hw) (tw211 hw) (tw210 hw) (tw81 hw) (tw212 hw) (bdk2 l Z a0 hw [] a1 a2 ma mb sg w0 w1 h0 n0 Z0 E_a1 F_a1_signum F_a1_mag E_ma f107 E_a2 F_a2_signum F_a2_mag E_mb A_mb hsg hw0) (W := 0) e108 E_a1 (g := (mkF m 28 #[vr a1, vr a2] [(.ref a2), (.ref a1)])) rfl hml rfl (argsL := [(.ref a2)]) (rest := []) (lenOf pd_17 rfl) rfl rfl rfl (hb hby d32_28) rfl
  refine Done.far st109 ?_
  obtain ⟨gb_109, gm_109, rfl, N109q, K109q, y109_0, y109_1, y109_2, y109_3, y109_4⟩ := hQ109
  show Aq T109 31 #[vr a1, vr a2] [(.ref gb_109)]
  exact Done.ref X109 hx hlk hret rfl rfl rfl (hb hby d32_31) (by decide) (by decide) ⟨gb_109, gm_109, rfl, (Fr.app N0 N109q), ⟨((kr h0 []).trans K109q all0), y109_0, y109_1, y109_2, y109_3, y109_4⟩⟩
theorem d39_0 : dq cd31 0 (.aload_n 0) 1 := by decide +kernel
theorem d39_1 : dq cd31 1 (.invokespecial 1) 3 := by decide +kernel
theorem d39_4 : dq cd31 4 (.aload_n 0) 1 := by decide +kernel
theorem d39_5 : dq cd31 5 (.aload_n 1) 1 := by decide +kernel
theorem d39_6 : dq cd31 6 (.putfield 7) 3 := by decide +kernel
theorem d39_9 : dq cd31 9 (.aload_n 0) 1 := by decide +kernel
theorem d39_10 : dq cd31 10 (.aload_n 2) 1 := by decide +kernel
theorem d39_11 : dq cd31 11 (.putfield 13) 3 := by decide +kernel
theorem d39_14 : dq cd31 14 .return_ 1 := by decide +kernel
theorem pn_39 : plainName "com/example/dendrocover/dendrocover/Rational" = true := by first | (simp [plainName, overriddenIn]; done) | decide +kernel
theorem ef_39 (m : MethodId) (a1 : Addr) (a2 : Addr) (a3 : Addr) : entryFrame m #[(.ref a1), (.ref a2), (.ref a3)] 3 = mkF m 0 #[.val (.ref a1), .val (.ref a2), .val (.ref a3)] [] := by first | (simp [entryFrame, mkF, argsToLocals, Value.category]; done) | rfl
theorem rai (l : Launch) (Z : State) (a0 : Array Value) (hw : HH a0 Z) (ws : List Jvm.Cond) (a1 a2 a3 : Addr) (h0 : Heap) (n0 : Nat) (Z0 : n0 ≤ h0.size) (E_a1 : Fl10 Z h0 a1) (F_a1_numerator : Fl8 Z h0 a1 .null) (F_a1_denominator : Fl9 Z h0 a1 .null) (g_a1 : n0 ≤ a1) : MF l "com/example/dendrocover/dendrocover/Rational" "<init>" "(Ljava/math/BigInteger;Ljava/math/BigInteger;)V" prog_30_method_1_code 3 none ws ⟨1, 0, 0, 12⟩ Z h0 #[(.ref a1), (.ref a2), (.ref a3)] (fun v h L => v = none ∧ Fr n0 L ∧ Keep h0 h [a1] ∧ Fl10 Z h a1 ∧ Fl8 Z h a1 (.ref a2) ∧ Fl9 Z h a1 (.ref a3)) := by
 refine own_body (n0 := n0) (plainFor_of_name pn_39) (fun m => ef_39 m a1 a2 a3) ?_
 intro p e s m below meth c s₁ hZ hx hby hml hown hlk hret hnm X0 e0 N0
 show Aq s₁ 0 #[vr a1, vr a2, vr a3] []
 refine aN X0 hx hby d39_0 rfl rfl ?_
 obtain ⟨T101, X101, e101, st101⟩ := initO X0 hx hZ hown (tw242 hw) (tw8 hw) (tw9 hw) e0 (g := (mkF m 1 #[vr a1, vr a2, vr a3] [(.ref a1)])) rfl (by rw [hml]; rfl) rfl (hb hby d39_1) (by decide) (W := 0) (by show 2 * 0 + _ ≤ _; exact Nat.le_of_eq rfl) (by decide)
 refine dS st101 ?_
 show Aq T101 4 #[vr a1, vr a2, vr a3] []
 refine aN X101 hx hby d39_4 rfl rfl ?_
 refine aN X101 hx hby d39_5 rfl rfl ?_
 obtain ⟨T102, h102, X102, e102, W102, st102⟩ := putF X101 hx hZ hown (host := "") (Or.inl (tw243 hw)) Via.refl e101 F_a1_numerator E_a1 (Or.inr ⟨(tw244 hw), rfl, hnm⟩) (tw202 hw) (ty := (.object "java/math/BigInteger")) (by decide) rfl rfl (g := (mkF m 6 #[vr a1, vr a2, vr a3] [(.ref a2), (.ref a1)])) rfl rfl (hb hby d39_6)
 have f103 := F_a1_numerator.same W102
 have f104 := F_a1_denominator.other W102 (Or.inr (sq8 hw))
 refine dS st102 ?_
 show Aq T102 9 #[vr a1, vr a2, vr a3] []
 refine aN X102 hx hby d39_9 rfl rfl ?_
 refine aN X102 hx hby d39_10 rfl rfl ?_
 obtain ⟨T105, h105, X105, e105, W105, st105⟩ := putF X102 hx hZ hown (host := "") (Or.inl (tw245 hw)) Via.refl e102 f104 (E_a1.wr W102) (Or.inr ⟨(tw246 hw), rfl, hnm⟩) (tw202 hw) (ty := (.object "java/math/BigInteger")) (by decide) rfl rfl (g := (mkF m 11 #[vr a1, vr a2, vr a3] [(.ref a3), (.ref a1)])) rfl rfl (hb hby d39_11)
 have f106 := f103.other W105 (Or.inr (sq9 hw))
 have f107 := f104.same W105
 refine dS st105 ?_
 show Aq T105 14 #[vr a1, vr a2, vr a3] []
 exact Done.void X105 hx hlk hret (hb hby d39_14) (by decide) (by decide) ⟨rfl, (Fr.snoc X105 (Fr.snoc X102 N0 g_a1) g_a1), (by rw [e105]; exact ⟨(((kr h0 [a1]).wr W102 (Or.inl me0)).wr W105 (Or.inl me0)), ((E_a1.wr W102).wr W105), f106, f107⟩)⟩
theorem d13_0 : dq cd32 0 (.aload_n 0) 1 := by decide +kernel
theorem d13_1 : dq cd32 1 (.getfield 32) 3 := by decide +kernel
theorem d13_4 : dq cd32 4 .ireturn 1 := by decide +kernel
theorem ef_13 (m : MethodId) (a1 : Addr) : entryFrame m #[(.ref a1)] 1 = mkF m 0 #[.val (.ref a1)] [] := by first | (simp [entryFrame, mkF, argsToLocals, Value.category]; done) | rfl
theorem sig1 (l : Launch) (Z : State) (a0 : Array Value) (hw : HH a0 Z) (ws : List Jvm.Cond) (a1 : Addr) (h0 : Heap) (n0 : Nat) (Z0 : n0 ≤ h0.size) (F_a1_signum : Fl6 Z h0 a1 (.int 1)) : MF l "java/math/BigInteger" "signum" "()I" jdk_2097_method_81_code 1 (some .int) ws ⟨0, 0, 0, 0⟩ Z h0 #[(.ref a1)] (fun v h L => v = some (.int 1) ∧ Fr n0 L ∧ Keep h0 h []) := by
 refine own_body (n0 := n0) (plainFor_of_name pn_24) (fun m => ef_13 m a1) ?_
 intro p e s m below meth c s₁ hZ hx hby hml hown hlk hret hnm X0 e0 N0
 show Aq s₁ 0 #[vr a1] []
 refine aN X0 hx hby d13_0 rfl rfl ?_
 obtain ⟨T101, X101, e101, st101⟩ := gF X0 hx hZ hown (tw93 hw) e0 F_a1_signum (g := (mkF m 1 #[vr a1] [(.ref a1)])) rfl rfl (hb hby d13_1)
 refine dS st101 ?_
 show Aq T101 4 #[vr a1] [(.int 1)]
 exact Done.int X101 hx hlk hret (hb hby d13_4) (by decide) (by decide) ⟨rfl, N0, (by rw [e101]; exact (kr h0 []))⟩
theorem d12_0 : dq cd33 0 (.aload_n 1) 1 := by decide +kernel
theorem d12_1 : dq cd33 1 (.invokevirtual 78) 3 := by decide +kernel
theorem d12_4 : dq cd33 4 (.ifCond .ne 13) 3 := by decide +kernel
theorem d12_17 : dq cd33 17 (.aload_n 0) 1 := by decide +kernel
theorem d12_18 : dq cd33 18 (.aload_n 1) 1 := by decide +kernel
theorem d12_19 : dq cd33 19 (.invokevirtual 87) 3 := by decide +kernel
theorem d12_22 : dq cd33 22 (.astore_n 2) 1 := by decide +kernel
theorem d12_23 : dq cd33 23 (.aload_n 1) 1 := by decide +kernel
theorem d12_24 : dq cd33 24 (.invokevirtual 78) 3 := by decide +kernel
theorem d12_27 : dq cd33 27 (.ifCond .ge 8) 3 := by decide +kernel
theorem d12_35 : dq cd33 35 (.new 8) 3 := by decide +kernel
theorem d12_38 : dq cd33 38 .dup 1 := by decide +kernel
theorem d12_39 : dq cd33 39 (.aload_n 0) 1 := by decide +kernel
theorem d12_40 : dq cd33 40 (.aload_n 2) 1 := by decide +kernel
theorem d12_41 : dq cd33 41 (.invokevirtual 95) 3 := by decide +kernel
theorem d12_44 : dq cd33 44 (.aload_n 1) 1 := by decide +kernel
theorem d12_45 : dq cd33 45 (.aload_n 2) 1 := by decide +kernel
theorem d12_46 : dq cd33 46 (.invokevirtual 95) 3 := by decide +kernel
theorem d12_49 : dq cd33 49 (.invokespecial 25) 3 := by decide +kernel
theorem d12_52 : dq cd33 52 .areturn 1 := by decide +kernel
theorem ef_12 (m : MethodId) (a1 : Addr) (a2 : Addr) : entryFrame m #[(.ref a1), (.ref a2)] 3 = mkF m 0 #[.val (.ref a1), .val (.ref a2), .unset] [] := by first | (simp [entryFrame, mkF, argsToLocals, Value.category]; done) | rfl
theorem red (l : Launch) (Z : State) (a0 : Array Value) (hw : HH a0 Z) (ws : List Jvm.Cond) (a1 a2 ma mb : Addr) (sg : Int32) (ml : List Int32) (hO : Heap) (h0 : Heap) (n0 : Nat) (Z0 : n0 ≤ h0.size) (E_a1 : Fl7 Z h0 a1) (F_a1_signum : Fl6 Z h0 a1 (.int sg)) (F_a1_mag : Fl5 Z h0 a1 (.ref ma)) (E_ma : Fl4 Z h0 ma) (A_ma : Ax Z h0 ma .int (ml.map Value.int)) (E_a2 : Fl7 Z h0 a2) (F_a2_signum : Fl6 Z h0 a2 (.int 1)) (F_a2_mag : Fl5 Z h0 a2 (.ref mb)) (E_mb : Fl4 Z h0 mb) (A_mb : Ax Z h0 mb .int [(.int 1)]) (KO : Keep hO h0 []) (ST : Stat Z hO) (hsh : Sh sg ml) : MF l "com/example/dendrocover/dendrocover/Rational" "reduced" "(Ljava/math/BigInteger;Ljava/math/BigInteger;)Lcom/example/dendrocover/dendrocover/Rational;" prog_30_method_5_code 3 (some (.object "com/example/dendrocover/dendrocover/Rational")) ws ⟨6, 22, 61, 98⟩ Z h0 #[(.ref a1), (.ref a2)] (fun v h L => ∃ (rb nb nm db dm : Addr), v = some (.ref rb) ∧ Fr n0 L ∧ Keep h0 h [] ∧ Fl10 Z h rb ∧ Fl8 Z h rb (.ref nb) ∧ Fl9 Z h rb (.ref db) ∧ Fl7 Z h nb ∧ Fl6 Z h nb (.int sg) ∧ Fl5 Z h nb (.ref nm) ∧ Fl4 Z h nm ∧ Ax Z h nm .int (ml.map Value.int) ∧ Fl7 Z h db ∧ Fl6 Z h db (.int 1) ∧ Fl5 Z h db (.ref dm) ∧ Fl4 Z h dm ∧ Ax Z h dm .int [(.int 1)]) := by
 refine own_body (n0 := n0) (plainFor_of_name pn_39) (fun m => ef_12 m a1 a2) ?_
 intro p e s m below meth c s₁ hZ hx hby hml hown hlk hret hnm X0 e0 N0
 show Aq s₁ 0 #[vr a1, vr a2, vu] []
 refine aN X0 hx hby d12_0 rfl rfl ?_
 obtain ⟨v101, T101, L101, X101, hQ101, st101⟩ := cV X0 hx hZ hown (tw88 hw) (tw89 hw) (tw91 hw) (tw90 hw) (tw81 hw) (tw92 hw) (sig1 l Z a0 hw [] a2  h0 n0 Z0 F_a2_signum) (W := 0) e0 E_a2 (g := (mkF m 1 #[vr a1, vr a2, vu] [(.ref a2)])) rfl hml rfl (argsL := []) (rest := []) (lenOf pd_8 rfl) rfl rfl rfl (hb hby d12_1) rfl
 refine Done.far st101 ?_
 obtain ⟨rfl, N101q, K101q⟩ := hQ101
 show Aq T101 4 #[vr a1, vr a2, vu] [(.int 1)]
 refine iY X101 hx hby d12_4 (pc' := 17) ((if0 _ _).trans (feq (by decide)).2) (H := ?_)
 refine aN X101 hx hby d12_17 rfl rfl ?_
 refine aN X101 hx hby d12_18 rfl rfl ?_
 obtain ⟨v102, T102, L102, X102, hQ102, st102⟩ := cV X101 hx hZ hown (tw95 hw) (tw96 hw) (tw98 hw) (tw97 hw) (tw81 hw) (tw99 hw) (gcdj l Z a0 hw [] a1 a2 ma mb sg ml T101.heap n0 (lq Z0 K101q.1) (E_a1.keep K101q) (F_a1_signum.keep K101q nin0) (F_a1_mag.keep K101q nin0) (E_ma.keep K101q) (A_ma.keep K101q nin0) (E_a2.keep K101q) (F_a2_signum.keep K101q nin0) (F_a2_mag.keep K101q nin0) (E_mb.keep K101q) (A_mb.keep K101q nin0) hsh) (W := 0) rfl (E_a1.keep K101q) (g := (mkF m 19 #[vr a1, vr a2, vu] [(.ref a2), (.ref a1)])) rfl hml rfl (argsL := [(.ref a2)]) (rest := []) (lenOf pd_17 rfl) rfl rfl rfl (hb hby d12_19) rfl
 refine Done.far st102 ?_
 obtain ⟨gb_102, gm_102, rfl, N102q, K102q, y102_0, y102_1, y102_2, y102_3, y102_4⟩ := hQ102
 show Aq T102 22 #[vr a1, vr a2, vu] [(.ref gb_102)]
 refine aT X102 hx hby d12_22 rfl (l' := #[vr a1, vr a2, vr gb_102]) rfl ?_
 refine aN X102 hx hby d12_23 rfl rfl ?_
 obtain ⟨v103, T103, L103, X103, hQ103, st103⟩ := cV X102 hx hZ hown (tw88 hw) (tw89 hw) (tw91 hw) (tw90 hw) (tw81 hw) (tw92 hw) (sig1 l Z a0 hw [] a2  T102.heap n0 (lq (lq Z0 K101q.1) K102q.1) ((F_a2_signum.keep K101q nin0).keep K102q nin0)) (W := 0) rfl ((E_a2.keep K101q).keep K102q) (g := (mkF m 24 #[vr a1, vr a2, vr gb_102] [(.ref a2)])) rfl hml rfl (argsL := []) (rest := []) (lenOf pd_8 rfl) rfl rfl rfl (hb hby d12_24) rfl
 refine Done.far st103 ?_
 obtain ⟨rfl, N103q, K103q⟩ := hQ103
 have Kk103 := (((kr h0 []).trans K101q all0).trans K102q all0).trans K103q all0
 show Aq T103 27 #[vr a1, vr a2, vr gb_102] [(.int 1)]
 refine iY X103 hx hby d12_27 (pc' := 35) ((if0 _ _).trans (flt (by decide)).2.1) (H := ?_)
 obtain ⟨T104, h104, X104, e104, E104, A104, D104, -, st104⟩ := newO X103 hx hZ hown (tw201 hw) (tw202 hw) (tw77 hw) rfl (g := (mkF m 35 #[vr a1, vr a2, vr gb_102] [])) rfl (hb hby d12_35) (by decide) (by decide)
 obtain ⟨b104, gq104⟩ : ∃ z, z = T103.heap.size := ⟨_, rfl⟩
 rw [← gq104] at A104 D104 st104
 have f105 := (((F_a1_signum.keep K101q nin0).keep K102q nin0).keep K103q nin0).ext E104
 have f106 := (((F_a1_mag.keep K101q nin0).keep K102q nin0).keep K103q nin0).ext E104
 have f107 := (((F_a2_signum.keep K101q nin0).keep K102q nin0).keep K103q nin0).ext E104
 have f108 := (((F_a2_mag.keep K101q nin0).keep K102q nin0).keep K103q nin0).ext E104
 have sz_b104 := lb Kk103.1 gq104
 have Z104 := lq (lq (lq (lq Z0 K101q.1) K102q.1) K103q.1) E104.1
 have f109 : Fl8 Z h104 b104 .null := D104 (Or.inr (tw244 hw)) (ty := (.object "java/math/BigInteger")) (by decide)
 have f110 : Fl9 Z h104 b104 .null := D104 (Or.inr (tw246 hw)) (ty := (.object "java/math/BigInteger")) (by decide)
 refine dS st104 ?_
 show Aq T104 38 #[vr a1, vr a2, vr gb_102] [(.ref b104)]
 refine dU X104 hx hby d12_38 rfl ?_
 refine aN X104 hx hby d12_39 rfl rfl ?_
 refine aN X104 hx hby d12_40 rfl rfl ?_
 obtain ⟨v111, T111, L111, X111, hQ111, st111⟩ := cV X104 hx hZ hown (tw203 hw) (tw204 hw) (tw206 hw) (tw205 hw) (tw81 hw) (tw207 hw) (divj l Z a0 hw [] a1 gb_102 ma gm_102 sg ml hO h104 n0 Z104 ((((E_a1.keep K101q).keep K102q).keep K103q).ext E104) f105 f106 ((((E_ma.keep K101q).keep K102q).keep K103q).ext E104) ((((A_ma.keep K101q nin0).keep K102q nin0).keep K103q nin0).ext E104) ((y102_0.keep K103q).ext E104) ((y102_1.keep K103q nin0).ext E104) ((y102_2.keep K103q nin0).ext E104) ((y102_3.keep K103q).ext E104) ((y102_4.keep K103q nin0).ext E104) (KO.trans (Kk103.ext E104) all0) ST hsh) (W := 2) e104 ((((E_a1.keep K101q).keep K102q).keep K103q).ext E104) (g := (mkF m 41 #[vr a1, vr a2, vr gb_102] [(.ref gb_102), (.ref a1), (.ref b104), (.ref b104)])) rfl hml rfl (argsL := [(.ref gb_102)]) (rest := [(.ref b104), (.ref b104)]) (lenOf pd_17 rfl) rfl rfl rfl (hb hby d12_41) rfl
 refine Done.far st111 ?_
 obtain ⟨gb_111, gm_111, rfl, N111q, K111q, y111_0, y111_1, y111_2, y111_3, y111_4⟩ := hQ111
 have f112 := ((((A_ma.keep K101q nin0).keep K102q nin0).keep K103q nin0).ext E104).keep K111q nin0
 have f113 := ((((A_mb.keep K101q nin0).keep K102q nin0).keep K103q nin0).ext E104).keep K111q nin0
 show Aq T111 44 #[vr a1, vr a2, vr gb_102] [(.ref gb_111), (.ref b104), (.ref b104)]
 refine aN X111 hx hby d12_44 rfl rfl ?_
 refine aN X111 hx hby d12_45 rfl rfl ?_
 obtain ⟨v114, T114, L114, X114, hQ114, st114⟩ := cV X111 hx hZ hown (tw203 hw) (tw204 hw) (tw206 hw) (tw205 hw) (tw81 hw) (tw207 hw) (divj l Z a0 hw [] a2 gb_102 mb gm_102 (1 : Int32) [(1 : Int32)] hO T111.heap n0 (lq Z104 K111q.1) (((((E_a2.keep K101q).keep K102q).keep K103q).ext E104).keep K111q) (f107.keep K111q nin0) (f108.keep K111q nin0) (((((E_mb.keep K101q).keep K102q).keep K103q).ext E104).keep K111q) f113 (((y102_0.keep K103q).ext E104).keep K111q) (((y102_1.keep K103q nin0).ext E104).keep K111q nin0) (((y102_2.keep K103q nin0).ext E104).keep K111q nin0) (((y102_3.keep K103q).ext E104).keep K111q) (((y102_4.keep K103q nin0).ext E104).keep K111q nin0) (KO.trans ((Kk103.ext E104).trans K111q all0) all0) ST (Or.inr (Or.inl ⟨(by decide), (1 : Int32), (by decide), rfl⟩))) (W := 3) rfl (((((E_a2.keep K101q).keep K102q).keep K103q).ext E104).keep K111q) (g := (mkF m 46 #[vr a1, vr a2, vr gb_102] [(.ref gb_102), (.ref a2), (.ref gb_111), (.ref b104), (.ref b104)])) rfl hml rfl (argsL := [(.ref gb_102)]) (rest := [(.ref gb_111), (.ref b104), (.ref b104)]) (lenOf pd_17 rfl) rfl rfl rfl (hb hby d12_46) rfl
 refine Done.far st114 ?_
 obtain ⟨gb_114, gm_114, rfl, N114q, K114q, y114_0, y114_1, y114_2, y114_3, y114_4⟩ := hQ114
 have N114 := Fr.app (Fr.app (Fr.app (Fr.app (Fr.app N0 N101q) N102q) N103q) N111q) N114q
 have f115 := (((((E_a1.keep K101q).keep K102q).keep K103q).ext E104).keep K111q).keep K114q
 have f116 := (((((E_ma.keep K101q).keep K102q).keep K103q).ext E104).keep K111q).keep K114q
 have f117 := (((((E_a2.keep K101q).keep K102q).keep K103q).ext E104).keep K111q).keep K114q
 have f118 := (((((E_mb.keep K101q).keep K102q).keep K103q).ext E104).keep K111q).keep K114q
 show Aq T114 49 #[vr a1, vr a2, vr gb_102] [(.ref gb_114), (.ref gb_111), (.ref b104), (.ref b104)]
 obtain ⟨v119, T119, L119, X119, hQ119, st119⟩ := cI X114 hx hZ hown (tw239 hw) (tw240 hw) (tw77 hw) (tw241 hw) (rai l Z a0 hw [] b104 gb_111 gb_114  T114.heap n0 (lq (lq Z104 K111q.1) K114q.1) ((A104.keep K111q).keep K114q) ((f109.keep K111q nin0).keep K114q nin0) ((f110.keep K111q nin0).keep K114q nin0) (lb (lq (lq (lq Z0 K101q.1) K102q.1) K103q.1) gq104)) (W := 1) rfl (g := (mkF m 49 #[vr a1, vr a2, vr gb_102] [(.ref gb_114), (.ref gb_111), (.ref b104), (.ref b104)])) rfl hml rfl (argsL := [(.ref gb_111), (.ref gb_114)]) (rest := [(.ref b104)]) (lenOf pd_18 rfl) rfl rfl rfl (hb hby d12_49) rfl
 refine Done.far st119 ?_
 obtain ⟨rfl, N119q, K119q, y119_0, y119_1, y119_2⟩ := hQ119
 have ne120 := nl (((E_a1.keep K101q).keep K102q).keep K103q).lt gq104
 have ne121 := nl (((E_ma.keep K101q).keep K102q).keep K103q).lt gq104
 have ne122 := nl (((E_a2.keep K101q).keep K102q).keep K103q).lt gq104
 have ne123 := nl (((E_mb.keep K101q).keep K102q).keep K103q).lt gq104
 have ne124 := nl (y102_0.keep K103q).lt gq104
 have f125 := ((((y102_1.keep K103q nin0).ext E104).keep K111q nin0).keep K114q nin0).keep K119q (ni1 ne124)
 have f126 := ((((y102_2.keep K103q nin0).ext E104).keep K111q nin0).keep K114q nin0).keep K119q (ni1 ne124)
 have ne127 := nl (y102_3.keep K103q).lt gq104
 have f128 := ((((y102_4.keep K103q nin0).ext E104).keep K111q nin0).keep K114q nin0).keep K119q (ni1 ne127)
 have ne129 := Exa.ne y111_0 (A104.keep K111q) (by decide)
 have ne130 := Exa.ne y111_3 (A104.keep K111q) (by decide)
 have ne131 := Exa.ne y114_0 ((A104.keep K111q).keep K114q) (by decide)
 have ne132 := Exa.ne y114_3 ((A104.keep K111q).keep K114q) (by decide)
 have Zk119 := lq (lq (lq Z104 K111q.1) K114q.1) K119q.1
 have Kk119 := (((Kk103.ext E104).trans K111q all0).trans K114q all0).trans K119q (allS (Or.inr sz_b104) all0)
 show Aq T119 52 #[vr a1, vr a2, vr gb_102] [(.ref b104)]
 exact Done.ref X119 hx hlk hret rfl rfl rfl (hb hby d12_52) (by decide) (by decide) ⟨b104, gb_111, gm_111, gb_114, gm_114, rfl, (Fr.app N114 N119q), ⟨Kk119, y119_0, y119_1, y119_2, ((y111_0.keep K114q).keep K119q), ((y111_1.keep K114q nin0).keep K119q (ni1 ne129)), ((y111_2.keep K114q nin0).keep K119q (ni1 ne129)), ((y111_3.keep K114q).keep K119q), ((y111_4.keep K114q nin0).keep K119q (ni1 ne130)), (y114_0.keep K119q), (y114_1.keep K119q (ni1 ne131)), (y114_2.keep K119q (ni1 ne131)), (y114_3.keep K119q), (y114_4.keep K119q (ni1 ne132))⟩⟩
theorem own_v1 : SG (1 : Int64) = 1 ∧ ML (1 : Int64) = [(1 : Int32)] := by decide +kernel
theorem d10_0 : dq cd34 0 (.lload_n 0) 1 := by decide +kernel
theorem d10_1 : dq cd34 1 (.invokestatic 16) 3 := by decide +kernel
theorem d10_4 : dq cd34 4 (.lload_n 2) 1 := by decide +kernel
theorem d10_5 : dq cd34 5 (.invokestatic 16) 3 := by decide +kernel
theorem d10_8 : dq cd34 8 (.invokestatic 28) 3 := by decide +kernel
theorem d10_11 : dq cd34 11 .areturn 1 := by decide +kernel
theorem ef_10 (m : MethodId) (q1 : Int64) (q2 : Int64) : entryFrame m #[(.long q1), (.long q2)] 4 = mkF m 0 #[.val (.long q1), .second, .val (.long q2), .second] [] := by first | (simp [entryFrame, mkF, argsToLocals, Value.category]; done) | rfl
theorem of2 (l : Launch) (Z : State) (a0 : Array Value) (hw : HH a0 Z) (ws : List Jvm.Cond) (q1 q2 : Int64) (hO : Heap) (h0 : Heap) (n0 : Nat) (Z0 : n0 ≤ h0.size) (hl_q2 : q2 = (1 : Int64)) (KO : Keep hO h0 []) (ST : Stat Z hO) : MF l "com/example/dendrocover/dendrocover/Rational" "of" "(JJ)Lcom/example/dendrocover/dendrocover/Rational;" prog_30_method_3_code 4 (some (.object "com/example/dendrocover/dendrocover/Rational")) ws ⟨7, 26, 77, 112⟩ Z h0 #[(.long q1), (.long q2)] (fun v h L => ∃ (rb nb nm db dm : Addr), v = some (.ref rb) ∧ Fr n0 L ∧ Keep h0 h [] ∧ Fl10 Z h rb ∧ Fl8 Z h rb (.ref nb) ∧ Fl9 Z h rb (.ref db) ∧ Fl7 Z h nb ∧ Fl6 Z h nb (.int (SG q1)) ∧ Fl5 Z h nb (.ref nm) ∧ Fl4 Z h nm ∧ Ax Z h nm .int ((ML q1).map Value.int) ∧ Fl7 Z h db ∧ Fl6 Z h db (.int 1) ∧ Fl5 Z h db (.ref dm) ∧ Fl4 Z h dm ∧ Ax Z h dm .int [(.int 1)]) := by
 refine own_body (n0 := n0) (plainFor_of_name pn_39) (fun m => ef_10 m q1 q2) ?_
 intro p e s m below meth c s₁ hZ hx hby hml hown hlk hret hnm X0 e0 N0
 subst hl_q2
 show Aq s₁ 0 #[vj q1, vz, vj 1, vz] []
 refine jN X0 hx hby d10_0 rfl ?_
 obtain ⟨v101, T101, L101, X101, hQ101, st101⟩ := cS X0 hx hZ hown (tw79 hw) (tw80 hw) (tw81 hw) (tw82 hw) (vof l Z a0 hw [] q1 hO h0 n0 Z0 (KO.trans (kr h0 []) all0) ST) (W := 0) e0 (g := (mkF m 1 #[vj q1, vz, vj 1, vz] [(.long q1)])) rfl hml rfl (argsL := [(.long q1)]) (rest := []) (lenOf pd_19 rfl) rfl rfl rfl (hb hby d10_1) rfl
 refine dS st101 ?_
 obtain ⟨gb_101, gm_101, rfl, N101q, K101q, y101_0, y101_1, y101_2, y101_3, y101_4⟩ := hQ101
 show Aq T101 4 #[vj q1, vz, vj 1, vz] [(.ref gb_101)]
 refine jN X101 hx hby d10_4 rfl ?_
 obtain ⟨v102, T102, L102, X102, hQ102, st102⟩ := cS X101 hx hZ hown (tw79 hw) (tw80 hw) (tw81 hw) (tw82 hw) (vof l Z a0 hw [] (1 : Int64) hO T101.heap n0 (lq Z0 K101q.1) (KO.trans ((kr h0 []).trans K101q all0) all0) ST) (W := 1) rfl (g := (mkF m 5 #[vj q1, vz, vj 1, vz] [(.long 1), (.ref gb_101)])) rfl hml rfl (argsL := [(.long 1)]) (rest := [(.ref gb_101)]) (lenOf pd_19 rfl) rfl rfl rfl (hb hby d10_5) rfl
 refine dS st102 ?_
 obtain ⟨gb_102, gm_102, rfl, N102q, K102q, y102_0, y102_1, y102_2, y102_3, y102_4⟩ := hQ102
 show Aq T102 8 #[vj q1, vz, vj 1, vz] [(.ref gb_102), (.ref gb_101)]
 have f103a : Fl6 Z T102.heap gb_102 (.int 1) := by have q := y102_1; rw [own_v1.1] at q; exact q
 have f103b : Ax Z T102.heap gm_102 .int [.int (1 : Int32)] := by have q := y102_4; rw [own_v1.2] at q; exact q
 obtain ⟨v104, T104, L104, X104, hQ104, st104⟩ := cS X102 hx hZ hown (tw85 hw) (tw86 hw) (tw77 hw) (tw87 hw) (red l Z a0 hw [] gb_101 gb_102 gm_101 gm_102 (SG q1) (ML q1) hO T102.heap n0 (lq (lq Z0 K101q.1) K102q.1) (y101_0.keep K102q) (y101_1.keep K102q nin0) (y101_2.keep K102q nin0) (y101_3.keep K102q) (y101_4.keep K102q nin0) y102_0 f103a y102_2 y102_3 f103b (KO.trans (((kr h0 []).trans K101q all0).trans K102q all0) all0) ST (own_sh q1)) (W := 0) rfl (g := (mkF m 8 #[vj q1, vz, vj 1, vz] [(.ref gb_102), (.ref gb_101)])) rfl hml rfl (argsL := [(.ref gb_101), (.ref gb_102)]) (rest := []) (lenOf pd_20 rfl) rfl rfl rfl (hb hby d10_8) rfl
 refine dS st104 ?_
 obtain ⟨rb_104, nb_104, nm_104, db_104, dm_104, rfl, N104q, K104q, y104_0, y104_1, y104_2, y104_3, y104_4, y104_5, y104_6, y104_7, y104_8, y104_9, y104_10, y104_11, y104_12⟩ := hQ104
 have Kk104 := (((kr h0 []).trans K101q all0).trans K102q all0).trans K104q all0
 show Aq T104 11 #[vj q1, vz, vj 1, vz] [(.ref rb_104)]
 exact Done.ref X104 hx hlk hret rfl rfl rfl (hb hby d10_11) (by decide) (by decide) ⟨rb_104, nb_104, nm_104, db_104, dm_104, rfl, (Fr.app (Fr.app (Fr.app N0 N101q) N102q) N104q), ⟨Kk104, y104_0, y104_1, y104_2, y104_3, y104_4, y104_5, y104_6, y104_7, y104_8, y104_9, y104_10, y104_11, y104_12⟩⟩
theorem d40_0 : dq cd35 0 (.new 8) 3 := by decide +kernel
theorem d40_3 : dq cd35 3 .dup 1 := by decide +kernel
theorem d40_4 : dq cd35 4 (.lload_n 0) 1 := by decide +kernel
theorem d40_5 : dq cd35 5 (.invokestatic 16) 3 := by decide +kernel
theorem d40_8 : dq cd35 8 (.getstatic 22) 3 := by decide +kernel
theorem d40_11 : dq cd35 11 (.invokespecial 25) 3 := by decide +kernel
theorem d40_14 : dq cd35 14 .areturn 1 := by decide +kernel
theorem ef_40 (m : MethodId) (q1 : Int64) : entryFrame m #[(.long q1)] 2 = mkF m 0 #[.val (.long q1), .second] [] := by first | (simp [entryFrame, mkF, argsToLocals, Value.category]; done) | rfl
theorem of1 (l : Launch) (Z : State) (a0 : Array Value) (hw : HH a0 Z) (ws : List Jvm.Cond) (q1 : Int64) (hO : Heap) (h0 : Heap) (n0 : Nat) (Z0 : n0 ≤ h0.size) (KO : Keep hO h0 []) (ST : Stat Z hO) : MF l "com/example/dendrocover/dendrocover/Rational" "of" "(J)Lcom/example/dendrocover/dendrocover/Rational;" prog_30_method_2_code 2 (some (.object "com/example/dendrocover/dendrocover/Rational")) ws ⟨4, 3, 10, 55⟩ Z h0 #[(.long q1)] (fun v h L => ∃ (rb nb nm db dm : Addr), v = some (.ref rb) ∧ Fr n0 L ∧ Keep h0 h [] ∧ Fl10 Z h rb ∧ Fl8 Z h rb (.ref nb) ∧ Fl9 Z h rb (.ref db) ∧ Fl7 Z h nb ∧ Fl6 Z h nb (.int (SG q1)) ∧ Fl5 Z h nb (.ref nm) ∧ Fl4 Z h nm ∧ Ax Z h nm .int ((ML q1).map Value.int) ∧ Fl7 Z h db ∧ Fl6 Z h db (.int 1) ∧ Fl5 Z h db (.ref dm) ∧ Fl4 Z h dm ∧ Ax Z h dm .int [(.int 1)]) := by
 refine own_body (n0 := n0) (plainFor_of_name pn_39) (fun m => ef_40 m q1) ?_
 intro p e s m below meth c s₁ hZ hx hby hml hown hlk hret hnm X0 e0 N0
 show Aq s₁ 0 #[vj q1, vz] []
 obtain ⟨T101, h101, X101, e101, E101, A101, D101, -, st101⟩ := newO X0 hx hZ hown (tw201 hw) (tw202 hw) (tw77 hw) e0 (g := (mkF m 0 #[vj q1, vz] [])) rfl (hb hby d40_0) (by decide) (by decide)
 obtain ⟨b101, gq101⟩ : ∃ z, z = h0.size := ⟨_, rfl⟩
 rw [← gq101] at A101 D101 st101
 have sz_b101 := lb (kr h0 []).1 gq101
 have f102 : Fl8 Z h101 b101 .null := D101 (Or.inr (tw244 hw)) (ty := (.object "java/math/BigInteger")) (by decide)
 have f103 : Fl9 Z h101 b101 .null := D101 (Or.inr (tw246 hw)) (ty := (.object "java/math/BigInteger")) (by decide)
 refine dS st101 ?_
 show Aq T101 3 #[vj q1, vz] [(.ref b101)]
 refine dU X101 hx hby d40_3 rfl ?_
 refine jN X101 hx hby d40_4 rfl ?_
 obtain ⟨v104, T104, L104, X104, hQ104, st104⟩ := cS X101 hx hZ hown (tw79 hw) (tw80 hw) (tw81 hw) (tw82 hw) (vof l Z a0 hw [] q1 hO h101 n0 (lq Z0 E101.1) (KO.trans ((kr h0 []).ext E101) all0) ST) (W := 2) e101 (g := (mkF m 5 #[vj q1, vz] [(.long q1), (.ref b101), (.ref b101)])) rfl hml rfl (argsL := [(.long q1)]) (rest := [(.ref b101), (.ref b101)]) (lenOf pd_19 rfl) rfl rfl rfl (hb hby d40_5) rfl
 refine dS st104 ?_
 obtain ⟨gb_104, gm_104, rfl, N104q, K104q, y104_0, y104_1, y104_2, y104_3, y104_4⟩ := hQ104
 show Aq T104 8 #[vj q1, vz] [(.ref gb_104), (.ref b101), (.ref b101)]
 obtain ⟨sb105, sm105, sS105, sE105, sG105, sM105, sX105, sA105⟩ := Bst.keep ST.2.1 (KO.trans (((kr h0 []).ext E101).trans K104q all0) all0)
 obtain ⟨T106, X106, e106, st106⟩ := getS2 X104 hx hZ hown (host := "") (Or.inl (tw250 hw)) Via.refl rfl sS105 (g := (mkF m 8 #[vj q1, vz] [(.ref gb_104), (.ref b101), (.ref b101)])) rfl (hb hby d40_8)
 refine dS st106 ?_
 show Aq T106 11 #[vj q1, vz] [(.ref sb105), (.ref gb_104), (.ref b101), (.ref b101)]
 obtain ⟨v107, T107, L107, X107, hQ107, st107⟩ := cI X106 hx hZ hown (tw239 hw) (tw240 hw) (tw77 hw) (tw241 hw) (rai l Z a0 hw [] b101 gb_104 sb105  T104.heap n0 (lq (lq Z0 E101.1) K104q.1) (A101.keep K104q) (f102.keep K104q nin0) (f103.keep K104q nin0) (lb Z0 gq101)) (W := 1) e106 (g := (mkF m 11 #[vj q1, vz] [(.ref sb105), (.ref gb_104), (.ref b101), (.ref b101)])) rfl hml rfl (argsL := [(.ref gb_104), (.ref sb105)]) (rest := [(.ref b101)]) (lenOf pd_18 rfl) rfl rfl rfl (hb hby d40_11) rfl
 refine Done.far st107 ?_
 obtain ⟨rfl, N107q, K107q, y107_0, y107_1, y107_2⟩ := hQ107
 have ne108 := Exa.ne y104_0 (A101.keep K104q) (by decide)
 have ne109 := Exa.ne y104_3 (A101.keep K104q) (by decide)
 have ne110 := Exa.ne sE105 (A101.keep K104q) (by decide)
 have ne111 := Exa.ne sX105 (A101.keep K104q) (by decide)
 have Kk107 := (((kr h0 []).ext E101).trans K104q all0).trans K107q (allS (Or.inr sz_b101) all0)
 show Aq T107 14 #[vj q1, vz] [(.ref b101)]
 exact Done.ref X107 hx hlk hret rfl rfl rfl (hb hby d40_14) (by decide) (by decide) ⟨b101, gb_104, gm_104, sb105, sm105, rfl, (Fr.app (Fr.app N0 N104q) N107q), ⟨Kk107, y107_0, y107_1, y107_2, (y104_0.keep K107q), (y104_1.keep K107q (ni1 ne108)), (y104_2.keep K107q (ni1 ne108)), (y104_3.keep K107q), (y104_4.keep K107q (ni1 ne109)), (sE105.keep K107q), (sG105.keep K107q (ni1 ne110)), (sM105.keep K107q (ni1 ne110)), (sX105.keep K107q), (sA105.keep K107q (ni1 ne111))⟩⟩
theorem d42_0 : dq cd36 0 (.aload_n 1) 1 := by decide +kernel
theorem d42_1 : dq cd36 1 (.aload_n 0) 1 := by decide +kernel
theorem d42_2 : dq cd36 2 (.if_acmp .ne 5) 3 := by decide +kernel
theorem d42_5 : dq cd36 5 (.iconst 1) 1 := by decide +kernel
theorem d42_6 : dq cd36 6 .ireturn 1 := by decide +kernel
theorem d42_7 : dq cd36 7 (.aload_n 1) 1 := by decide +kernel
theorem d42_8 : dq cd36 8 (.instanceof 23) 3 := by decide +kernel
theorem d42_11 : dq cd36 11 (.ifCond .eq 11) 3 := by decide +kernel
theorem d42_14 : dq cd36 14 (.aload_n 1) 1 := by decide +kernel
theorem d42_15 : dq cd36 15 (.checkcast 23) 3 := by decide +kernel
theorem d42_18 : dq cd36 18 (.astore_n 2) 1 := by decide +kernel
theorem d42_19 : dq cd36 19 (.goto 5) 3 := by decide +kernel
theorem d42_24 : dq cd36 24 (.aload_n 2) 1 := by decide +kernel
theorem d42_25 : dq cd36 25 (.getfield 32) 3 := by decide +kernel
theorem d42_28 : dq cd36 28 (.aload_n 0) 1 := by decide +kernel
theorem d42_29 : dq cd36 29 (.getfield 32) 3 := by decide +kernel
theorem d42_32 : dq cd36 32 (.if_icmp .eq 5) 3 := by decide +kernel
theorem d42_37 : dq cd36 37 (.aload_n 0) 1 := by decide +kernel
theorem d42_38 : dq cd36 38 (.getfield 28) 3 := by decide +kernel
theorem d42_41 : dq cd36 41 (.astore_n 3) 1 := by decide +kernel
theorem d42_42 : dq cd36 42 (.aload_n 3) 1 := by decide +kernel
theorem d42_43 : dq cd36 43 .arraylength 1 := by decide +kernel
theorem d42_44 : dq cd36 44 (.istore 4) 2 := by decide +kernel
theorem d42_46 : dq cd36 46 (.aload_n 2) 1 := by decide +kernel
theorem d42_47 : dq cd36 47 (.getfield 28) 3 := by decide +kernel
theorem d42_50 : dq cd36 50 (.astore 5) 2 := by decide +kernel
theorem d42_52 : dq cd36 52 (.iload 4) 2 := by decide +kernel
theorem d42_54 : dq cd36 54 (.aload 5) 2 := by decide +kernel
theorem d42_56 : dq cd36 56 .arraylength 1 := by decide +kernel
theorem d42_57 : dq cd36 57 (.if_icmp .eq 5) 3 := by decide +kernel
theorem d42_62 : dq cd36 62 (.iconst 0) 1 := by decide +kernel
theorem d42_63 : dq cd36 63 (.istore 6) 2 := by decide +kernel
theorem d42_65 : dq cd36 65 (.iload 6) 2 := by decide +kernel
theorem d42_67 : dq cd36 67 (.iload 4) 2 := by decide +kernel
theorem d42_69 : dq cd36 69 (.if_icmp .ge 23) 3 := by decide +kernel
theorem d42_72 : dq cd36 72 (.aload 5) 2 := by decide +kernel
theorem d42_74 : dq cd36 74 (.iload 6) 2 := by decide +kernel
theorem d42_76 : dq cd36 76 .iaload 1 := by decide +kernel
theorem d42_77 : dq cd36 77 (.aload_n 3) 1 := by decide +kernel
theorem d42_78 : dq cd36 78 (.iload 6) 2 := by decide +kernel
theorem d42_80 : dq cd36 80 .iaload 1 := by decide +kernel
theorem d42_81 : dq cd36 81 (.if_icmp .eq 5) 3 := by decide +kernel
theorem d42_86 : dq cd36 86 (.iinc 6 1) 3 := by decide +kernel
theorem d42_89 : dq cd36 89 (.goto (-24)) 3 := by decide +kernel
theorem d42_92 : dq cd36 92 (.iconst 1) 1 := by decide +kernel
theorem d42_93 : dq cd36 93 .ireturn 1 := by decide +kernel
theorem ef_42 (m : MethodId) (a1 : Addr) (a2 : Addr) : entryFrame m #[(.ref a1), (.ref a2)] 7 = mkF m 0 #[.val (.ref a1), .val (.ref a2), .unset, .unset, .unset, .unset, .unset] [] := by first | (simp [entryFrame, mkF, argsToLocals, Value.category]; done) | rfl
theorem beq (l : Launch) (Z : State) (a0 : Array Value) (hw : HH a0 Z) (ws : List Jvm.Cond) (a1 a2 ma mb : Addr) (sg : Int32) (ml : List Int32) (h0 : Heap) (n0 : Nat) (Z0 : n0 ≤ h0.size) (E_a1 : Fl7 Z h0 a1) (F_a1_signum : Fl6 Z h0 a1 (.int sg)) (F_a1_mag : Fl5 Z h0 a1 (.ref ma)) (E_ma : Fl4 Z h0 ma) (A_ma : Ax Z h0 ma .int (ml.map Value.int)) (E_a2 : Fl7 Z h0 a2) (F_a2_signum : Fl6 Z h0 a2 (.int sg)) (F_a2_mag : Fl5 Z h0 a2 (.ref mb)) (E_mb : Fl4 Z h0 mb) (A_mb : Ax Z h0 mb .int (ml.map Value.int)) (hsh : Sh sg ml) : MF l "java/math/BigInteger" "equals" "(Ljava/lang/Object;)Z" jdk_2097_method_124_code 7 (some .boolean) ws ⟨0, 0, 0, 0⟩ Z h0 #[(.ref a1), (.ref a2)] (fun v h L => v = some (.int 1) ∧ Fr n0 L ∧ Keep h0 h []) := by
 refine own_body (n0 := n0) (plainFor_of_name pn_24) (fun m => ef_42 m a1 a2) ?_
 intro p e s m below meth c s₁ hZ hx hby hml hown hlk hret hnm X0 e0 N0
 show Aq s₁ 0 #[vr a1, vr a2, vu, vu, vu, vu, vu] []
 obtain ⟨rfl, rfl⟩ | ⟨hsg, w0, hw0, rfl⟩ | ⟨hsg, w0, w1, hw0, rfl⟩ := hsh
 ·have f101 : Ax Z h0 ma .int [] := A_ma
  have f102 : Ax Z h0 mb .int [] := A_mb
  show Aq s₁ 0 #[vr a1, vr a2, vu, vu, vu, vu, vu] []
  refine aN X0 hx hby d42_0 rfl rfl ?_
  refine aN X0 hx hby d42_1 rfl rfl ?_
  by_cases c1 : a2 = a1
  ·refine dS (fun t k => Jvm.RoadKit.acmp (g := (mkF m 2 #[vr a1, vr a2, vu, vu, vu, vu, vu] [(.ref a1), (.ref a2)])) X0 hx rfl rfl rfl (pc0 := 2) (pc' := 5) (same := true) rfl (hb hby d42_2) rfl (decide_eq_true (congrArg Value.ref c1)) (by decide) (by decide) k) ?_
   show Aq s₁ 5 #[vr a1, vr a2, vu, vu, vu, vu, vu] []
   refine iC X0 hx hby d42_5 (z := 1) rfl ?_
   exact Done.narr X0 hx hlk hret (by simp) (hb hby d42_6) (by decide) (by decide) ⟨rfl, N0, (by rw [e0]; exact (kr h0 []))⟩
  ·refine dS (fun t k => Jvm.RoadKit.acmp (g := (mkF m 2 #[vr a1, vr a2, vu, vu, vu, vu, vu] [(.ref a1), (.ref a2)])) X0 hx rfl rfl rfl (pc0 := 2) (pc' := 7) (same := false) rfl (hb hby d42_2) rfl (decide_eq_false fun q => c1 (Value.ref.inj q)) (by decide) (by decide) k) ?_
   show Aq s₁ 7 #[vr a1, vr a2, vu, vu, vu, vu, vu] []
   refine aN X0 hx hby d42_7 rfl rfl ?_
   obtain ⟨T103, X103, e103, st103⟩ := instY X0 hx hZ hown (tw262 hw) e0 (Ins.self E_a2) (g := (mkF m 8 #[vr a1, vr a2, vu, vu, vu, vu, vu] [(.ref a2)])) rfl rfl (hb hby d42_8)
   refine dS st103 ?_
   show Aq T103 11 #[vr a1, vr a2, vu, vu, vu, vu, vu] [(.int 1)]
   refine iF X103 hx hby d42_11 ((if0 _ _).trans (feq (by decide)).1) ?_
   refine aN X103 hx hby d42_14 rfl rfl ?_
   obtain ⟨T104, X104, e104, st104⟩ := castY X103 hx hZ hown (tw262 hw) e103 (Ins.self E_a2) (g := (mkF m 15 #[vr a1, vr a2, vu, vu, vu, vu, vu] [(.ref a2)])) rfl rfl (hb hby d42_15)
   refine dS st104 ?_
   show Aq T104 18 #[vr a1, vr a2, vu, vu, vu, vu, vu] [(.ref a2)]
   refine aT X104 hx hby d42_18 rfl (l' := #[vr a1, vr a2, vr a2, vu, vu, vu, vu]) rfl ?_
   refine gO X104 hx hby d42_19 (pc' := 24) (H := ?_)
   refine aN X104 hx hby d42_24 rfl rfl ?_
   obtain ⟨T105, X105, e105, st105⟩ := gF X104 hx hZ hown (tw93 hw) e104 F_a2_signum (g := (mkF m 25 #[vr a1, vr a2, vr a2, vu, vu, vu, vu] [(.ref a2)])) rfl rfl (hb hby d42_25)
   refine dS st105 ?_
   show Aq T105 28 #[vr a1, vr a2, vr a2, vu, vu, vu, vu] [(.int 0)]
   refine aN X105 hx hby d42_28 rfl rfl ?_
   obtain ⟨T106, X106, e106, st106⟩ := gF X105 hx hZ hown (tw93 hw) e105 F_a1_signum (g := (mkF m 29 #[vr a1, vr a2, vr a2, vu, vu, vu, vu] [(.ref a1), (.int 0)])) rfl rfl (hb hby d42_29)
   refine dS st106 ?_
   show Aq T106 32 #[vr a1, vr a2, vr a2, vu, vu, vu, vu] [(.int 0), (.int 0)]
   refine cY X106 hx hby d42_32 (pc' := 37) (teq (by decide)).1 (H := ?_)
   refine aN X106 hx hby d42_37 rfl rfl ?_
   obtain ⟨T107, X107, e107, st107⟩ := gF X106 hx hZ hown (tw199 hw) e106 F_a1_mag (g := (mkF m 38 #[vr a1, vr a2, vr a2, vu, vu, vu, vu] [(.ref a1)])) rfl rfl (hb hby d42_38)
   refine dS st107 ?_
   show Aq T107 41 #[vr a1, vr a2, vr a2, vu, vu, vu, vu] [(.ref ma)]
   refine aT X107 hx hby d42_41 rfl (l' := #[vr a1, vr a2, vr a2, vr ma, vu, vu, vu]) rfl ?_
   refine aN X107 hx hby d42_42 rfl rfl ?_
   refine dS (lenA X107 hx hZ e107 f101 (n := (0 : Int32)) rfl (g := (mkF m 43 #[vr a1, vr a2, vr a2, vr ma, vu, vu, vu] [(.ref ma)])) rfl rfl (hb hby d42_43)) ?_
   show Aq T107 44 #[vr a1, vr a2, vr a2, vr ma, vu, vu, vu] [(.int 0)]
   refine sL X107 hx hby d42_44 (l' := #[vr a1, vr a2, vr a2, vr ma, vi 0, vu, vu]) rfl ?_
   refine aN X107 hx hby d42_46 rfl rfl ?_
   obtain ⟨T108, X108, e108, st108⟩ := gF X107 hx hZ hown (tw199 hw) e107 F_a2_mag (g := (mkF m 47 #[vr a1, vr a2, vr a2, vr ma, vi 0, vu, vu] [(.ref a2)])) rfl rfl (hb hby d42_47)
   refine dS st108 ?_
   show Aq T108 50 #[vr a1, vr a2, vr a2, vr ma, vi 0, vu, vu] [(.ref mb)]
   refine aS X108 hx hby d42_50 rfl (l' := #[vr a1, vr a2, vr a2, vr ma, vi 0, vr mb, vu]) rfl ?_
   refine iL X108 hx hby d42_52 rfl ?_
   refine aL X108 hx hby d42_54 rfl rfl ?_
   refine dS (lenA X108 hx hZ e108 f102 (n := (0 : Int32)) rfl (g := (mkF m 56 #[vr a1, vr a2, vr a2, vr ma, vi 0, vr mb, vu] [(.ref mb), (.int 0)])) rfl rfl (hb hby d42_56)) ?_
   show Aq T108 57 #[vr a1, vr a2, vr a2, vr ma, vi 0, vr mb, vu] [(.int 0), (.int 0)]
   refine cY X108 hx hby d42_57 (pc' := 62) (teq (by decide)).1 (H := ?_)
   refine iC X108 hx hby d42_62 (z := 0) rfl ?_
   refine sL X108 hx hby d42_63 (l' := #[vr a1, vr a2, vr a2, vr ma, vi 0, vr mb, vi 0]) rfl ?_
   refine iL X108 hx hby d42_65 rfl ?_
   refine iL X108 hx hby d42_67 rfl ?_
   refine cY X108 hx hby d42_69 (pc' := 92) (flt (by decide)).2.1 (H := ?_)
   refine iC X108 hx hby d42_92 (z := 1) rfl ?_
   exact Done.narr X108 hx hlk hret (by simp) (hb hby d42_93) (by decide) (by decide) ⟨rfl, N0, (by rw [e108]; exact (kr h0 []))⟩
 ·have f109 : Ax Z h0 ma .int [(.int w0)] := A_ma
  have f110 : Ax Z h0 mb .int [(.int w0)] := A_mb
  show Aq s₁ 0 #[vr a1, vr a2, vu, vu, vu, vu, vu] []
  refine aN X0 hx hby d42_0 rfl rfl ?_
  refine aN X0 hx hby d42_1 rfl rfl ?_
  by_cases c2 : a2 = a1
  ·refine dS (fun t k => Jvm.RoadKit.acmp (g := (mkF m 2 #[vr a1, vr a2, vu, vu, vu, vu, vu] [(.ref a1), (.ref a2)])) X0 hx rfl rfl rfl (pc0 := 2) (pc' := 5) (same := true) rfl (hb hby d42_2) rfl (decide_eq_true (congrArg Value.ref c2)) (by decide) (by decide) k) ?_
   show Aq s₁ 5 #[vr a1, vr a2, vu, vu, vu, vu, vu] []
   refine iC X0 hx hby d42_5 (z := 1) rfl ?_
   exact Done.narr X0 hx hlk hret (by simp) (hb hby d42_6) (by decide) (by decide) ⟨rfl, N0, (by rw [e0]; exact (kr h0 []))⟩
  ·refine dS (fun t k => Jvm.RoadKit.acmp (g := (mkF m 2 #[vr a1, vr a2, vu, vu, vu, vu, vu] [(.ref a1), (.ref a2)])) X0 hx rfl rfl rfl (pc0 := 2) (pc' := 7) (same := false) rfl (hb hby d42_2) rfl (decide_eq_false fun q => c2 (Value.ref.inj q)) (by decide) (by decide) k) ?_
   show Aq s₁ 7 #[vr a1, vr a2, vu, vu, vu, vu, vu] []
   refine aN X0 hx hby d42_7 rfl rfl ?_
   obtain ⟨T111, X111, e111, st111⟩ := instY X0 hx hZ hown (tw262 hw) e0 (Ins.self E_a2) (g := (mkF m 8 #[vr a1, vr a2, vu, vu, vu, vu, vu] [(.ref a2)])) rfl rfl (hb hby d42_8)
   refine dS st111 ?_
   show Aq T111 11 #[vr a1, vr a2, vu, vu, vu, vu, vu] [(.int 1)]
   refine iF X111 hx hby d42_11 ((if0 _ _).trans (feq (by decide)).1) ?_
   refine aN X111 hx hby d42_14 rfl rfl ?_
   obtain ⟨T112, X112, e112, st112⟩ := castY X111 hx hZ hown (tw262 hw) e111 (Ins.self E_a2) (g := (mkF m 15 #[vr a1, vr a2, vu, vu, vu, vu, vu] [(.ref a2)])) rfl rfl (hb hby d42_15)
   refine dS st112 ?_
   show Aq T112 18 #[vr a1, vr a2, vu, vu, vu, vu, vu] [(.ref a2)]
   refine aT X112 hx hby d42_18 rfl (l' := #[vr a1, vr a2, vr a2, vu, vu, vu, vu]) rfl ?_
   refine gO X112 hx hby d42_19 (pc' := 24) (H := ?_)
   refine aN X112 hx hby d42_24 rfl rfl ?_
   obtain ⟨T113, X113, e113, st113⟩ := gF X112 hx hZ hown (tw93 hw) e112 F_a2_signum (g := (mkF m 25 #[vr a1, vr a2, vr a2, vu, vu, vu, vu] [(.ref a2)])) rfl rfl (hb hby d42_25)
   refine dS st113 ?_
   show Aq T113 28 #[vr a1, vr a2, vr a2, vu, vu, vu, vu] [(.int sg)]
   refine aN X113 hx hby d42_28 rfl rfl ?_
   obtain ⟨T114, X114, e114, st114⟩ := gF X113 hx hZ hown (tw93 hw) e113 F_a1_signum (g := (mkF m 29 #[vr a1, vr a2, vr a2, vu, vu, vu, vu] [(.ref a1), (.int sg)])) rfl rfl (hb hby d42_29)
   refine dS st114 ?_
   show Aq T114 32 #[vr a1, vr a2, vr a2, vu, vu, vu, vu] [(.int sg), (.int sg)]
   refine cY X114 hx hby d42_32 (pc' := 37) (teq rfl).1 (H := ?_)
   refine aN X114 hx hby d42_37 rfl rfl ?_
   obtain ⟨T115, X115, e115, st115⟩ := gF X114 hx hZ hown (tw199 hw) e114 F_a1_mag (g := (mkF m 38 #[vr a1, vr a2, vr a2, vu, vu, vu, vu] [(.ref a1)])) rfl rfl (hb hby d42_38)
   refine dS st115 ?_
   show Aq T115 41 #[vr a1, vr a2, vr a2, vu, vu, vu, vu] [(.ref ma)]
   refine aT X115 hx hby d42_41 rfl (l' := #[vr a1, vr a2, vr a2, vr ma, vu, vu, vu]) rfl ?_
   refine aN X115 hx hby d42_42 rfl rfl ?_
   refine dS (lenA X115 hx hZ e115 f109 (n := (1 : Int32)) rfl (g := (mkF m 43 #[vr a1, vr a2, vr a2, vr ma, vu, vu, vu] [(.ref ma)])) rfl rfl (hb hby d42_43)) ?_
   show Aq T115 44 #[vr a1, vr a2, vr a2, vr ma, vu, vu, vu] [(.int 1)]
   refine sL X115 hx hby d42_44 (l' := #[vr a1, vr a2, vr a2, vr ma, vi 1, vu, vu]) rfl ?_
   refine aN X115 hx hby d42_46 rfl rfl ?_
   obtain ⟨T116, X116, e116, st116⟩ := gF X115 hx hZ hown (tw199 hw) e115 F_a2_mag (g := (mkF m 47 #[vr a1, vr a2, vr a2, vr ma, vi 1, vu, vu] [(.ref a2)])) rfl rfl (hb hby d42_47)
   refine dS st116 ?_
   show Aq T116 50 #[vr a1, vr a2, vr a2, vr ma, vi 1, vu, vu] [(.ref mb)]
   refine aS X116 hx hby d42_50 rfl (l' := #[vr a1, vr a2, vr a2, vr ma, vi 1, vr mb, vu]) rfl ?_
   refine iL X116 hx hby d42_52 rfl ?_
   refine aL X116 hx hby d42_54 rfl rfl ?_
   refine dS (lenA X116 hx hZ e116 f110 (n := (1 : Int32)) rfl (g := (mkF m 56 #[vr a1, vr a2, vr a2, vr ma, vi 1, vr mb, vu] [(.ref mb), (.int 1)])) rfl rfl (hb hby d42_56)) ?_
   show Aq T116 57 #[vr a1, vr a2, vr a2, vr ma, vi 1, vr mb, vu] [(.int 1), (.int 1)]
   refine cY X116 hx hby d42_57 (pc' := 62) (teq (by decide)).1 (H := ?_)
   refine iC X116 hx hby d42_62 (z := 0) rfl ?_
   refine sL X116 hx hby d42_63 (l' := #[vr a1, vr a2, vr a2, vr ma, vi 1, vr mb, vi 0]) rfl ?_
   refine iL X116 hx hby d42_65 rfl ?_
   refine iL X116 hx hby d42_67 rfl ?_
   refine cF X116 hx hby d42_69 (tlt (by decide)).2.1 ?_
   refine aL X116 hx hby d42_72 rfl rfl ?_
   refine iL X116 hx hby d42_74 rfl ?_
   refine dS (ldI X116 hx hZ e116 f110 (j := (0 : Int32)) (x := (.int w0)) (by decide) rfl (g := (mkF m 76 #[vr a1, vr a2, vr a2, vr ma, vi 1, vr mb, vi 0] [(.int 0), (.ref mb)])) rfl rfl (hb hby d42_76)) ?_
   show Aq T116 77 #[vr a1, vr a2, vr a2, vr ma, vi 1, vr mb, vi 0] [(.int w0)]
   refine aN X116 hx hby d42_77 rfl rfl ?_
   refine iL X116 hx hby d42_78 rfl ?_
   refine dS (ldI X116 hx hZ e116 f109 (j := (0 : Int32)) (x := (.int w0)) (by decide) rfl (g := (mkF m 80 #[vr a1, vr a2, vr a2, vr ma, vi 1, vr mb, vi 0] [(.int 0), (.ref ma), (.int w0)])) rfl rfl (hb hby d42_80)) ?_
   show Aq T116 81 #[vr a1, vr a2, vr a2, vr ma, vi 1, vr mb, vi 0] [(.int w0), (.int w0)]
   refine cY X116 hx hby d42_81 (pc' := 86) (teq rfl).1 (H := ?_)
   refine dS (fun t k => XS.iinc X116.here hx rfl (hb hby d42_86) rfl (l' := #[vr a1, vr a2, vr a2, vr ma, vi 1, vr mb, vi ((0 : Int32) + (1 : Int32))]) rfl k) ?_
   show Aq T116 89 #[vr a1, vr a2, vr a2, vr ma, vi 1, vr mb, vi ((0 : Int32) + (1 : Int32))] []
   rw [show ((0 : Int32) + (1 : Int32)) = (1 : Int32) from by decide]
   show Aq T116 89 #[vr a1, vr a2, vr a2, vr ma, vi 1, vr mb, vi 1] []
   refine gO X116 hx hby d42_89 (pc' := 65) (H := ?_)
   refine iL X116 hx hby d42_65 rfl ?_
   refine iL X116 hx hby d42_67 rfl ?_
   refine cY X116 hx hby d42_69 (pc' := 92) (flt (by decide)).2.1 (H := ?_)
   refine iC X116 hx hby d42_92 (z := 1) rfl ?_
   exact Done.narr X116 hx hlk hret (by simp) (hb hby d42_93) (by decide) (by decide) ⟨rfl, N0, (by rw [e116]; exact (kr h0 []))⟩
 ·have f117 : Ax Z h0 ma .int [(.int w0), (.int w1)] := A_ma
  have f118 : Ax Z h0 mb .int [(.int w0), (.int w1)] := A_mb
  show Aq s₁ 0 #[vr a1, vr a2, vu, vu, vu, vu, vu] []
  refine aN X0 hx hby d42_0 rfl rfl ?_
  refine aN X0 hx hby d42_1 rfl rfl ?_
  by_cases c3 : a2 = a1
  ·refine dS (fun t k => Jvm.RoadKit.acmp (g := (mkF m 2 #[vr a1, vr a2, vu, vu, vu, vu, vu] [(.ref a1), (.ref a2)])) X0 hx rfl rfl rfl (pc0 := 2) (pc' := 5) (same := true) rfl (hb hby d42_2) rfl (decide_eq_true (congrArg Value.ref c3)) (by decide) (by decide) k) ?_
   show Aq s₁ 5 #[vr a1, vr a2, vu, vu, vu, vu, vu] []
   refine iC X0 hx hby d42_5 (z := 1) rfl ?_
   exact Done.narr X0 hx hlk hret (by simp) (hb hby d42_6) (by decide) (by decide) ⟨rfl, N0, (by rw [e0]; exact (kr h0 []))⟩
  ·refine dS (fun t k => Jvm.RoadKit.acmp (g := (mkF m 2 #[vr a1, vr a2, vu, vu, vu, vu, vu] [(.ref a1), (.ref a2)])) X0 hx rfl rfl rfl (pc0 := 2) (pc' := 7) (same := false) rfl (hb hby d42_2) rfl (decide_eq_false fun q => c3 (Value.ref.inj q)) (by decide) (by decide) k) ?_
   show Aq s₁ 7 #[vr a1, vr a2, vu, vu, vu, vu, vu] []
   refine aN X0 hx hby d42_7 rfl rfl ?_
   obtain ⟨T119, X119, e119, st119⟩ := instY X0 hx hZ hown (tw262 hw) e0 (Ins.self E_a2) (g := (mkF m 8 #[vr a1, vr a2, vu, vu, vu, vu, vu] [(.ref a2)])) rfl rfl (hb hby d42_8)
   refine dS st119 ?_
   show Aq T119 11 #[vr a1, vr a2, vu, vu, vu, vu, vu] [(.int 1)]
   refine iF X119 hx hby d42_11 ((if0 _ _).trans (feq (by decide)).1) ?_
   refine aN X119 hx hby d42_14 rfl rfl ?_
   obtain ⟨T120, X120, e120, st120⟩ := castY X119 hx hZ hown (tw262 hw) e119 (Ins.self E_a2) (g := (mkF m 15 #[vr a1, vr a2, vu, vu, vu, vu, vu] [(.ref a2)])) rfl rfl (hb hby d42_15)
   refine dS st120 ?_
   show Aq T120 18 #[vr a1, vr a2, vu, vu, vu, vu, vu] [(.ref a2)]
   refine aT X120 hx hby d42_18 rfl (l' := #[vr a1, vr a2, vr a2, vu, vu, vu, vu]) rfl ?_
   refine gO X120 hx hby d42_19 (pc' := 24) (H := ?_)
   refine aN X120 hx hby d42_24 rfl rfl ?_
   obtain ⟨T121, X121, e121, st121⟩ := gF X120 hx hZ hown (tw93 hw) e120 F_a2_signum (g := (mkF m 25 #[vr a1, vr a2, vr a2, vu, vu, vu, vu] [(.ref a2)])) rfl rfl (hb hby d42_25)
   refine dS st121 ?_
   show Aq T121 28 #[vr a1, vr a2, vr a2, vu, vu, vu, vu] [(.int sg)]
   refine aN X121 hx hby d42_28 rfl rfl ?_
   obtain ⟨T122, X122, e122, st122⟩ := gF X121 hx hZ hown (tw93 hw) e121 F_a1_signum (g := (mkF m 29 #[vr a1, vr a2, vr a2, vu, vu, vu, vu] [(.ref a1), (.int sg)])) rfl rfl (hb hby d42_29)
   refine dS st122 ?_
   show Aq T122 32 #[vr a1, vr a2, vr a2, vu, vu, vu, vu] [(.int sg), (.int sg)]
   refine cY X122 hx hby d42_32 (pc' := 37) (teq rfl).1 (H := ?_)
   refine aN X122 hx hby d42_37 rfl rfl ?_
   obtain ⟨T123, X123, e123, st123⟩ := gF X122 hx hZ hown (tw199 hw) e122 F_a1_mag (g := (mkF m 38 #[vr a1, vr a2, vr a2, vu, vu, vu, vu] [(.ref a1)])) rfl rfl (hb hby d42_38)
   refine dS st123 ?_
   show Aq T123 41 #[vr a1, vr a2, vr a2, vu, vu, vu, vu] [(.ref ma)]
   refine aT X123 hx hby d42_41 rfl (l' := #[vr a1, vr a2, vr a2, vr ma, vu, vu, vu]) rfl ?_
   refine aN X123 hx hby d42_42 rfl rfl ?_
   refine dS (lenA X123 hx hZ e123 f117 (n := (2 : Int32)) rfl (g := (mkF m 43 #[vr a1, vr a2, vr a2, vr ma, vu, vu, vu] [(.ref ma)])) rfl rfl (hb hby d42_43)) ?_
   show Aq T123 44 #[vr a1, vr a2, vr a2, vr ma, vu, vu, vu] [(.int 2)]
   refine sL X123 hx hby d42_44 (l' := #[vr a1, vr a2, vr a2, vr ma, vi 2, vu, vu]) rfl ?_
   refine aN X123 hx hby d42_46 rfl rfl ?_
   obtain ⟨T124, X124, e124, st124⟩ := gF X123 hx hZ hown (tw199 hw) e123 F_a2_mag (g := (mkF m 47 #[vr a1, vr a2, vr a2, vr ma, vi 2, vu, vu] [(.ref a2)])) rfl rfl (hb hby d42_47)
   refine dS st124 ?_
   show Aq T124 50 #[vr a1, vr a2, vr a2, vr ma, vi 2, vu, vu] [(.ref mb)]
   refine aS X124 hx hby d42_50 rfl (l' := #[vr a1, vr a2, vr a2, vr ma, vi 2, vr mb, vu]) rfl ?_
   refine iL X124 hx hby d42_52 rfl ?_
   refine aL X124 hx hby d42_54 rfl rfl ?_
   refine dS (lenA X124 hx hZ e124 f118 (n := (2 : Int32)) rfl (g := (mkF m 56 #[vr a1, vr a2, vr a2, vr ma, vi 2, vr mb, vu] [(.ref mb), (.int 2)])) rfl rfl (hb hby d42_56)) ?_
   show Aq T124 57 #[vr a1, vr a2, vr a2, vr ma, vi 2, vr mb, vu] [(.int 2), (.int 2)]
   refine cY X124 hx hby d42_57 (pc' := 62) (teq (by decide)).1 (H := ?_)
   refine iC X124 hx hby d42_62 (z := 0) rfl ?_
   refine sL X124 hx hby d42_63 (l' := #[vr a1, vr a2, vr a2, vr ma, vi 2, vr mb, vi 0]) rfl ?_
   refine iL X124 hx hby d42_65 rfl ?_
   refine iL X124 hx hby d42_67 rfl ?_
   refine cF X124 hx hby d42_69 (tlt (by decide)).2.1 ?_
   refine aL X124 hx hby d42_72 rfl rfl ?_
   refine iL X124 hx hby d42_74 rfl ?_
   refine dS (ldI X124 hx hZ e124 f118 (j := (0 : Int32)) (x := (.int w0)) (by decide) rfl (g := (mkF m 76 #[vr a1, vr a2, vr a2, vr ma, vi 2, vr mb, vi 0] [(.int 0), (.ref mb)])) rfl rfl (hb hby d42_76)) ?_
   show Aq T124 77 #[vr a1, vr a2, vr a2, vr ma, vi 2, vr mb, vi 0] [(.int w0)]
   refine aN X124 hx hby d42_77 rfl rfl ?_
   refine iL X124 hx hby d42_78 rfl ?_
   refine dS (ldI X124 hx hZ e124 f117 (j := (0 : Int32)) (x := (.int w0)) (by decide) rfl (g := (mkF m 80 #[vr a1, vr a2, vr a2, vr ma, vi 2, vr mb, vi 0] [(.int 0), (.ref ma), (.int w0)])) rfl rfl (hb hby d42_80)) ?_
   show Aq T124 81 #[vr a1, vr a2, vr a2, vr ma, vi 2, vr mb, vi 0] [(.int w0), (.int w0)]
   refine cY X124 hx hby d42_81 (pc' := 86) (teq rfl).1 (H := ?_)
   refine dS (fun t k => XS.iinc X124.here hx rfl (hb hby d42_86) rfl (l' := #[vr a1, vr a2, vr a2, vr ma, vi 2, vr mb, vi ((0 : Int32) + (1 : Int32))]) rfl k) ?_
   show Aq T124 89 #[vr a1, vr a2, vr a2, vr ma, vi 2, vr mb, vi ((0 : Int32) + (1 : Int32))] []
   rw [show ((0 : Int32) + (1 : Int32)) = (1 : Int32) from by decide]
   show Aq T124 89 #[vr a1, vr a2, vr a2, vr ma, vi 2, vr mb, vi 1] []
   refine gO X124 hx hby d42_89 (pc' := 65) (H := ?_)
   refine iL X124 hx hby d42_65 rfl ?_
   refine iL X124 hx hby d42_67 rfl ?_
   refine cF X124 hx hby d42_69 (tlt (by decide)).2.1 ?_
   refine aL X124 hx hby d42_72 rfl rfl ?_
   refine iL X124 hx hby d42_74 rfl ?_
   refine dS (ldI X124 hx hZ e124 f118 (j := (1 : Int32)) (x := (.int w1)) (by decide) rfl (g := (mkF m 76 #[vr a1, vr a2, vr a2, vr ma, vi 2, vr mb, vi 1] [(.int 1), (.ref mb)])) rfl rfl (hb hby d42_76)) ?_
   show Aq T124 77 #[vr a1, vr a2, vr a2, vr ma, vi 2, vr mb, vi 1] [(.int w1)]
   refine aN X124 hx hby d42_77 rfl rfl ?_
   refine iL X124 hx hby d42_78 rfl ?_
   refine dS (ldI X124 hx hZ e124 f117 (j := (1 : Int32)) (x := (.int w1)) (by decide) rfl (g := (mkF m 80 #[vr a1, vr a2, vr a2, vr ma, vi 2, vr mb, vi 1] [(.int 1), (.ref ma), (.int w1)])) rfl rfl (hb hby d42_80)) ?_
   show Aq T124 81 #[vr a1, vr a2, vr a2, vr ma, vi 2, vr mb, vi 1] [(.int w1), (.int w1)]
   refine cY X124 hx hby d42_81 (pc' := 86) (teq rfl).1 (H := ?_)
   refine dS (fun t k => XS.iinc X124.here hx rfl (hb hby d42_86) rfl (l' := #[vr a1, vr a2, vr a2, vr ma, vi 2, vr mb, vi ((1 : Int32) + (1 : Int32))]) rfl k) ?_
   show Aq T124 89 #[vr a1, vr a2, vr a2, vr ma, vi 2, vr mb, vi ((1 : Int32) + (1 : Int32))] []
   rw [show ((1 : Int32) + (1 : Int32)) = (2 : Int32) from by decide]
   show Aq T124 89 #[vr a1, vr a2, vr a2, vr ma, vi 2, vr mb, vi 2] []
   refine gO X124 hx hby d42_89 (pc' := 65) (H := ?_)
   refine iL X124 hx hby d42_65 rfl ?_
   refine iL X124 hx hby d42_67 rfl ?_
   refine cY X124 hx hby d42_69 (pc' := 92) (flt (by decide)).2.1 (H := ?_)
   refine iC X124 hx hby d42_92 (z := 1) rfl ?_
   exact Done.narr X124 hx hlk hret (by simp) (hb hby d42_93) (by decide) (by decide) ⟨rfl, N0, (by rw [e124]; exact (kr h0 []))⟩
theorem d41_0 : dq cd37 0 (.aload_n 1) 1 := by decide +kernel
theorem d41_1 : dq cd37 1 (.instanceof 8) 3 := by decide +kernel
theorem d41_4 : dq cd37 4 (.ifCond .ne 5) 3 := by decide +kernel
theorem d41_9 : dq cd37 9 (.aload_n 1) 1 := by decide +kernel
theorem d41_10 : dq cd37 10 (.checkcast 8) 3 := by decide +kernel
theorem d41_13 : dq cd37 13 (.astore_n 2) 1 := by decide +kernel
theorem d41_14 : dq cd37 14 (.aload_n 0) 1 := by decide +kernel
theorem d41_15 : dq cd37 15 (.getfield 7) 3 := by decide +kernel
theorem d41_18 : dq cd37 18 (.aload_n 2) 1 := by decide +kernel
theorem d41_19 : dq cd37 19 (.getfield 7) 3 := by decide +kernel
theorem d41_22 : dq cd37 22 (.invokevirtual 121) 3 := by decide +kernel
theorem d41_25 : dq cd37 25 (.ifCond .eq 21) 3 := by decide +kernel
theorem d41_28 : dq cd37 28 (.aload_n 0) 1 := by decide +kernel
theorem d41_29 : dq cd37 29 (.getfield 13) 3 := by decide +kernel
theorem d41_32 : dq cd37 32 (.aload_n 2) 1 := by decide +kernel
theorem d41_33 : dq cd37 33 (.getfield 13) 3 := by decide +kernel
theorem d41_36 : dq cd37 36 (.invokevirtual 121) 3 := by decide +kernel
theorem d41_39 : dq cd37 39 (.ifCond .eq 7) 3 := by decide +kernel
theorem d41_42 : dq cd37 42 (.iconst 1) 1 := by decide +kernel
theorem d41_43 : dq cd37 43 (.goto 4) 3 := by decide +kernel
theorem d41_47 : dq cd37 47 .ireturn 1 := by decide +kernel
theorem ef_41 (m : MethodId) (a1 : Addr) (a2 : Addr) : entryFrame m #[(.ref a1), (.ref a2)] 3 = mkF m 0 #[.val (.ref a1), .val (.ref a2), .unset] [] := by first | (simp [entryFrame, mkF, argsToLocals, Value.category]; done) | rfl
theorem req (l : Launch) (Z : State) (a0 : Array Value) (hw : HH a0 Z) (ws : List Jvm.Cond) (a1 a2 n1 m1 d1 k1 n2 m2 d2 k2 : Addr) (sg : Int32) (ml : List Int32) (h0 : Heap) (n0 : Nat) (Z0 : n0 ≤ h0.size) (E_a1 : Fl10 Z h0 a1) (F_a1_numerator : Fl8 Z h0 a1 (.ref n1)) (F_a1_denominator : Fl9 Z h0 a1 (.ref d1)) (E_n1 : Fl7 Z h0 n1) (F_n1_signum : Fl6 Z h0 n1 (.int sg)) (F_n1_mag : Fl5 Z h0 n1 (.ref m1)) (E_m1 : Fl4 Z h0 m1) (A_m1 : Ax Z h0 m1 .int (ml.map Value.int)) (E_d1 : Fl7 Z h0 d1) (F_d1_signum : Fl6 Z h0 d1 (.int 1)) (F_d1_mag : Fl5 Z h0 d1 (.ref k1)) (E_k1 : Fl4 Z h0 k1) (A_k1 : Ax Z h0 k1 .int [(.int 1)]) (E_a2 : Fl10 Z h0 a2) (F_a2_numerator : Fl8 Z h0 a2 (.ref n2)) (F_a2_denominator : Fl9 Z h0 a2 (.ref d2)) (E_n2 : Fl7 Z h0 n2) (F_n2_signum : Fl6 Z h0 n2 (.int sg)) (F_n2_mag : Fl5 Z h0 n2 (.ref m2)) (E_m2 : Fl4 Z h0 m2) (A_m2 : Ax Z h0 m2 .int (ml.map Value.int)) (E_d2 : Fl7 Z h0 d2) (F_d2_signum : Fl6 Z h0 d2 (.int 1)) (F_d2_mag : Fl5 Z h0 d2 (.ref k2)) (E_k2 : Fl4 Z h0 k2) (A_k2 : Ax Z h0 k2 .int [(.int 1)]) (hsh : Sh sg ml) : MF l "com/example/dendrocover/dendrocover/Rational" "equals" "(Ljava/lang/Object;)Z" prog_30_method_16_code 3 (some .boolean) ws ⟨1, 0, 0, 18⟩ Z h0 #[(.ref a1), (.ref a2)] (fun v h L => v = some (.int 1) ∧ Fr n0 L ∧ Keep h0 h []) := by
 refine own_body (n0 := n0) (plainFor_of_name pn_39) (fun m => ef_41 m a1 a2) ?_
 intro p e s m below meth c s₁ hZ hx hby hml hown hlk hret hnm X0 e0 N0
 show Aq s₁ 0 #[vr a1, vr a2, vu] []
 refine aN X0 hx hby d41_0 rfl rfl ?_
 obtain ⟨T101, X101, e101, st101⟩ := instY X0 hx hZ hown (tw201 hw) e0 (Ins.self E_a2) (g := (mkF m 1 #[vr a1, vr a2, vu] [(.ref a2)])) rfl rfl (hb hby d41_1)
 refine dS st101 ?_
 show Aq T101 4 #[vr a1, vr a2, vu] [(.int 1)]
 refine iY X101 hx hby d41_4 (pc' := 9) ((if0 _ _).trans (feq (by decide)).2) (H := ?_)
 refine aN X101 hx hby d41_9 rfl rfl ?_
 obtain ⟨T102, X102, e102, st102⟩ := castY X101 hx hZ hown (tw201 hw) e101 (Ins.self E_a2) (g := (mkF m 10 #[vr a1, vr a2, vu] [(.ref a2)])) rfl rfl (hb hby d41_10)
 refine dS st102 ?_
 show Aq T102 13 #[vr a1, vr a2, vu] [(.ref a2)]
 refine aT X102 hx hby d41_13 rfl (l' := #[vr a1, vr a2, vr a2]) rfl ?_
 refine aN X102 hx hby d41_14 rfl rfl ?_
 obtain ⟨T103, X103, e103, st103⟩ := gF X102 hx hZ hown (tw243 hw) e102 F_a1_numerator (g := (mkF m 15 #[vr a1, vr a2, vr a2] [(.ref a1)])) rfl rfl (hb hby d41_15)
 refine dS st103 ?_
 show Aq T103 18 #[vr a1, vr a2, vr a2] [(.ref n1)]
 refine aN X103 hx hby d41_18 rfl rfl ?_
 obtain ⟨T104, X104, e104, st104⟩ := gF X103 hx hZ hown (tw243 hw) e103 F_a2_numerator (g := (mkF m 19 #[vr a1, vr a2, vr a2] [(.ref a2), (.ref n1)])) rfl rfl (hb hby d41_19)
 refine dS st104 ?_
 show Aq T104 22 #[vr a1, vr a2, vr a2] [(.ref n2), (.ref n1)]
 obtain ⟨v105, T105, L105, X105, hQ105, st105⟩ := cV X104 hx hZ hown (tw257 hw) (tw258 hw) (tw260 hw) (tw259 hw) (tw81 hw) (tw261 hw) (beq l Z a0 hw [] n1 n2 m1 m2 sg ml h0 n0 Z0 E_n1 F_n1_signum F_n1_mag E_m1 A_m1 E_n2 F_n2_signum F_n2_mag E_m2 A_m2 hsh) (W := 0) e104 E_n1 (g := (mkF m 22 #[vr a1, vr a2, vr a2] [(.ref n2), (.ref n1)])) rfl hml rfl (argsL := [(.ref n2)]) (rest := []) (lenOf pd_21 rfl) rfl rfl rfl (hb hby d41_22) rfl
 refine Done.far st105 ?_
 obtain ⟨rfl, N105q, K105q⟩ := hQ105
 show Aq T105 25 #[vr a1, vr a2, vr a2] [(.int 1)]
 refine iF X105 hx hby d41_25 ((if0 _ _).trans (feq (by decide)).1) ?_
 refine aN X105 hx hby d41_28 rfl rfl ?_
 obtain ⟨T106, X106, e106, st106⟩ := gF X105 hx hZ hown (tw245 hw) rfl (F_a1_denominator.keep K105q nin0) (g := (mkF m 29 #[vr a1, vr a2, vr a2] [(.ref a1)])) rfl rfl (hb hby d41_29)
 refine dS st106 ?_
 show Aq T106 32 #[vr a1, vr a2, vr a2] [(.ref d1)]
 refine aN X106 hx hby d41_32 rfl rfl ?_
 obtain ⟨T107, X107, e107, st107⟩ := gF X106 hx hZ hown (tw245 hw) e106 (F_a2_denominator.keep K105q nin0) (g := (mkF m 33 #[vr a1, vr a2, vr a2] [(.ref a2), (.ref d1)])) rfl rfl (hb hby d41_33)
 refine dS st107 ?_
 show Aq T107 36 #[vr a1, vr a2, vr a2] [(.ref d2), (.ref d1)]
 obtain ⟨v108, T108, L108, X108, hQ108, st108⟩ := cV X107 hx hZ hown (tw257 hw) (tw258 hw) (tw260 hw) (tw259 hw) (tw81 hw) (tw261 hw) (beq l Z a0 hw [] d1 d2 k1 k2 (1 : Int32) [(1 : Int32)] T105.heap n0 (lq Z0 K105q.1) (E_d1.keep K105q) (F_d1_signum.keep K105q nin0) (F_d1_mag.keep K105q nin0) (E_k1.keep K105q) (A_k1.keep K105q nin0) (E_d2.keep K105q) (F_d2_signum.keep K105q nin0) (F_d2_mag.keep K105q nin0) (E_k2.keep K105q) (A_k2.keep K105q nin0) (Or.inr (Or.inl ⟨(by decide), (1 : Int32), (by decide), rfl⟩))) (W := 0) e107 (E_d1.keep K105q) (g := (mkF m 36 #[vr a1, vr a2, vr a2] [(.ref d2), (.ref d1)])) rfl hml rfl (argsL := [(.ref d2)]) (rest := []) (lenOf pd_21 rfl) rfl rfl rfl (hb hby d41_36) rfl
 refine Done.far st108 ?_
 obtain ⟨rfl, N108q, K108q⟩ := hQ108
 show Aq T108 39 #[vr a1, vr a2, vr a2] [(.int 1)]
 refine iF X108 hx hby d41_39 ((if0 _ _).trans (feq (by decide)).1) ?_
 refine iC X108 hx hby d41_42 (z := 1) rfl ?_
 refine gO X108 hx hby d41_43 (pc' := 47) (H := ?_)
 exact Done.narr X108 hx hlk hret (by simp) (hb hby d41_47) (by decide) (by decide) ⟨rfl, (Fr.app (Fr.app N0 N105q) N108q), (((kr h0 []).trans K105q all0).trans K108q all0)⟩
theorem d4_0 : dq cd38 0 (.aload_n 0) 1 := by decide +kernel
theorem d4_1 : dq cd38 1 (.getfield 7) 3 := by decide +kernel
theorem d4_4 : dq cd38 4 .ireturn 1 := by decide +kernel
theorem pn_4 : plainName "com/example/dendrocover/dendrocover/Network" = true := by first | (simp [plainName, overriddenIn]; done) | decide +kernel
theorem ef_4 (m : MethodId) (a1 : Addr) : entryFrame m #[(.ref a1)] 1 = mkF m 0 #[.val (.ref a1)] [] := by first | (simp [entryFrame, mkF, argsToLocals, Value.category]; done) | rfl
theorem nvc (l : Launch) (Z : State) (a0 : Array Value) (hw : HH a0 Z) (ws : List Jvm.Cond) (a1 : Addr) (h0 : Heap) (n0 : Nat) (Z0 : n0 ≤ h0.size) (F_a1_vertexCount : Fl11 Z h0 a1 (.int 2)) : MF l "com/example/dendrocover/dendrocover/Network" "vertexCount" "()I" prog_20_method_2_code 1 (some .int) ws ⟨0, 0, 0, 0⟩ Z h0 #[(.ref a1)] (fun v h L => v = some (.int 2) ∧ Fr n0 L ∧ Keep h0 h []) := by
 refine own_body (n0 := n0) (plainFor_of_name pn_4) (fun m => ef_4 m a1) ?_
 intro p e s m below meth c s₁ hZ hx hby hml hown hlk hret hnm X0 e0 N0
 show Aq s₁ 0 #[vr a1] []
 refine aN X0 hx hby d4_0 rfl rfl ?_
 obtain ⟨T101, X101, e101, st101⟩ := gF X0 hx hZ hown (tw10 hw) e0 F_a1_vertexCount (g := (mkF m 1 #[vr a1] [(.ref a1)])) rfl rfl (hb hby d4_1)
 refine dS st101 ?_
 show Aq T101 4 #[vr a1] [(.int 2)]
 exact Done.int X101 hx hlk hret (hb hby d4_4) (by decide) (by decide) ⟨rfl, N0, (by rw [e101]; exact (kr h0 []))⟩
theorem d5_0 : dq cd39 0 (.aload_n 0) 1 := by decide +kernel
theorem d5_1 : dq cd39 1 (.getfield 13) 3 := by decide +kernel
theorem d5_4 : dq cd39 4 .ireturn 1 := by decide +kernel
theorem ef_5 (m : MethodId) (a1 : Addr) : entryFrame m #[(.ref a1)] 1 = mkF m 0 #[.val (.ref a1)] [] := by first | (simp [entryFrame, mkF, argsToLocals, Value.category]; done) | rfl
theorem nrc (l : Launch) (Z : State) (a0 : Array Value) (hw : HH a0 Z) (ws : List Jvm.Cond) (a1 : Addr) (h0 : Heap) (n0 : Nat) (Z0 : n0 ≤ h0.size) (F_a1_roadCount : Fl12 Z h0 a1 (.int 2)) : MF l "com/example/dendrocover/dendrocover/Network" "roadCount" "()I" prog_20_method_3_code 1 (some .int) ws ⟨0, 0, 0, 0⟩ Z h0 #[(.ref a1)] (fun v h L => v = some (.int 2) ∧ Fr n0 L ∧ Keep h0 h []) := by
 refine own_body (n0 := n0) (plainFor_of_name pn_4) (fun m => ef_5 m a1) ?_
 intro p e s m below meth c s₁ hZ hx hby hml hown hlk hret hnm X0 e0 N0
 show Aq s₁ 0 #[vr a1] []
 refine aN X0 hx hby d5_0 rfl rfl ?_
 obtain ⟨T101, X101, e101, st101⟩ := gF X0 hx hZ hown (tw12 hw) e0 F_a1_roadCount (g := (mkF m 1 #[vr a1] [(.ref a1)])) rfl rfl (hb hby d5_1)
 refine dS st101 ?_
 show Aq T101 4 #[vr a1] [(.int 2)]
 exact Done.int X101 hx hlk hret (hb hby d5_4) (by decide) (by decide) ⟨rfl, N0, (by rw [e101]; exact (kr h0 []))⟩
theorem d3_0 : dq cd40 0 (.aload_n 0) 1 := by decide +kernel
theorem d3_1 : dq cd40 1 (.invokespecial 1) 3 := by decide +kernel
theorem d3_4 : dq cd40 4 (.aload_n 0) 1 := by decide +kernel
theorem d3_5 : dq cd40 5 (.lload_n 2) 1 := by decide +kernel
theorem d3_6 : dq cd40 6 (.putfield 7) 3 := by decide +kernel
theorem d3_9 : dq cd40 9 (.aload_n 0) 1 := by decide +kernel
theorem d3_10 : dq cd40 10 (.lload 4) 2 := by decide +kernel
theorem d3_12 : dq cd40 12 (.putfield 13) 3 := by decide +kernel
theorem d3_15 : dq cd40 15 (.aload_n 0) 1 := by decide +kernel
theorem d3_16 : dq cd40 16 (.aload_n 1) 1 := by decide +kernel
theorem d3_17 : dq cd40 17 (.invokevirtual 16) 3 := by decide +kernel
theorem d3_20 : dq cd40 20 (.iconst 1) 1 := by decide +kernel
theorem d3_21 : dq cd40 21 .iadd 1 := by decide +kernel
theorem d3_22 : dq cd40 22 (.newarray .boolean) 2 := by decide +kernel
theorem d3_24 : dq cd40 24 (.putfield 22) 3 := by decide +kernel
theorem d3_27 : dq cd40 27 (.aload_n 0) 1 := by decide +kernel
theorem d3_28 : dq cd40 28 (.aload_n 1) 1 := by decide +kernel
theorem d3_29 : dq cd40 29 (.invokevirtual 26) 3 := by decide +kernel
theorem d3_32 : dq cd40 32 (.iconst 1) 1 := by decide +kernel
theorem d3_33 : dq cd40 33 .iadd 1 := by decide +kernel
theorem d3_34 : dq cd40 34 (.newarray .long) 2 := by decide +kernel
theorem d3_36 : dq cd40 36 (.putfield 29) 3 := by decide +kernel
theorem d3_39 : dq cd40 39 (.aload_n 0) 1 := by decide +kernel
theorem d3_40 : dq cd40 40 (.aload_n 1) 1 := by decide +kernel
theorem d3_41 : dq cd40 41 (.invokevirtual 26) 3 := by decide +kernel
theorem d3_44 : dq cd40 44 (.iconst 1) 1 := by decide +kernel
theorem d3_45 : dq cd40 45 .iadd 1 := by decide +kernel
theorem d3_46 : dq cd40 46 (.newarray .long) 2 := by decide +kernel
theorem d3_48 : dq cd40 48 (.putfield 33) 3 := by decide +kernel
theorem d3_51 : dq cd40 51 .return_ 1 := by decide +kernel
theorem pn_3 : plainName "com/example/dendrocover/dendrocover/Placement" = true := by first | (simp [plainName, overriddenIn]; done) | decide +kernel
theorem ef_3 (m : MethodId) (a1 : Addr) (a2 : Addr) (q3 : Int64) (q4 : Int64) : entryFrame m #[(.ref a1), (.ref a2), (.long q3), (.long q4)] 6 = mkF m 0 #[.val (.ref a1), .val (.ref a2), .val (.long q3), .second, .val (.long q4), .second] [] := by first | (simp [entryFrame, mkF, argsToLocals, Value.category]; done) | rfl
theorem pli (l : Launch) (Z : State) (a0 : Array Value) (hw : HH a0 Z) (ws : List Jvm.Cond) (a1 a2 : Addr) (q3 q4 : Int64) (h0 : Heap) (n0 : Nat) (Z0 : n0 ≤ h0.size) (E_a1 : Fl19 Z h0 a1) (F_a1_spacing : Fl13 Z h0 a1 (.long 0)) (F_a1_unitsPerLength : Fl14 Z h0 a1 (.long 0)) (F_a1_atVertex : Fl15 Z h0 a1 .null) (F_a1_rowLength : Fl16 Z h0 a1 .null) (F_a1_rowStart : Fl17 Z h0 a1 .null) (F_a1_count : Fl18 Z h0 a1 (.long 0)) (g_a1 : n0 ≤ a1) (E_a2 : Fl20 Z h0 a2) (F_a2_vertexCount : Fl11 Z h0 a2 (.int 2)) (F_a2_roadCount : Fl12 Z h0 a2 (.int 2)) (ne_a1_a2 : a1 ≠ a2) : MF l "com/example/dendrocover/dendrocover/Placement" "<init>" "(Lcom/example/dendrocover/dendrocover/Network;JJ)V" prog_27_method_1_code 6 none ws ⟨1, 3, 9, 13⟩ Z h0 #[(.ref a1), (.ref a2), (.long q3), (.long q4)] (fun v h L => ∃ (bl bs : Addr), v = none ∧ Fr n0 L ∧ Keep h0 h [a1] ∧ Fl19 Z h a1 ∧ Fl13 Z h a1 (.long q3) ∧ Fl14 Z h a1 (.long q4) ∧ Fl16 Z h a1 (.ref bl) ∧ Fl17 Z h a1 (.ref bs) ∧ Fl18 Z h a1 (.long 0) ∧ Ax Z h bl .long [(.long 0), (.long 0), (.long 0)] ∧ Ax Z h bs .long [(.long 0), (.long 0), (.long 0)] ∧ h0.size ≤ bl ∧ h0.size ≤ bs ∧ bl ≠ bs) := by
 refine own_body (n0 := n0) (plainFor_of_name pn_3) (fun m => ef_3 m a1 a2 q3 q4) ?_
 intro p e s m below meth c s₁ hZ hx hby hml hown hlk hret hnm X0 e0 N0
 show Aq s₁ 0 #[vr a1, vr a2, vj q3, vz, vj q4, vz] []
 refine aN X0 hx hby d3_0 rfl rfl ?_
 obtain ⟨T101, X101, e101, st101⟩ := initO X0 hx hZ hown (tw30 hw) (tw8 hw) (tw9 hw) e0 (g := (mkF m 1 #[vr a1, vr a2, vj q3, vz, vj q4, vz] [(.ref a1)])) rfl (by rw [hml]; rfl) rfl (hb hby d3_1) (by decide) (W := 0) (by show 2 * 0 + _ ≤ _; exact Nat.le_of_eq rfl) (by decide)
 refine dS st101 ?_
 show Aq T101 4 #[vr a1, vr a2, vj q3, vz, vj q4, vz] []
 refine aN X101 hx hby d3_4 rfl rfl ?_
 refine jN X101 hx hby d3_5 rfl ?_
 obtain ⟨T102, h102, X102, e102, W102, st102⟩ := putF X101 hx hZ hown (host := "") (Or.inl (tw31 hw)) Via.refl e101 F_a1_spacing E_a1 (Or.inr ⟨(tw32 hw), rfl, hnm⟩) (tw25 hw) (ty := .long) (by decide) rfl rfl (g := (mkF m 6 #[vr a1, vr a2, vj q3, vz, vj q4, vz] [(.long q3), (.ref a1)])) rfl rfl (hb hby d3_6)
 have f103 := F_a1_spacing.same W102
 have f104 := F_a1_unitsPerLength.other W102 (Or.inr (sq10 hw))
 have f105 := F_a1_atVertex.other W102 (Or.inr (sq11 hw))
 have f106 := F_a1_rowLength.other W102 (Or.inr (sq12 hw))
 have f107 := F_a1_rowStart.other W102 (Or.inr (sq13 hw))
 have f108 := F_a1_count.other W102 (Or.inr (sq14 hw))
 refine dS st102 ?_
 show Aq T102 9 #[vr a1, vr a2, vj q3, vz, vj q4, vz] []
 refine aN X102 hx hby d3_9 rfl rfl ?_
 refine jL X102 hx hby d3_10 rfl ?_
 obtain ⟨T109, h109, X109, e109, W109, st109⟩ := putF X102 hx hZ hown (host := "") (Or.inl (tw33 hw)) Via.refl e102 f104 (E_a1.wr W102) (Or.inr ⟨(tw34 hw), rfl, hnm⟩) (tw25 hw) (ty := .long) (by decide) rfl rfl (g := (mkF m 12 #[vr a1, vr a2, vj q3, vz, vj q4, vz] [(.long q4), (.ref a1)])) rfl rfl (hb hby d3_12)
 have f110 := f103.other W109 (Or.inr (sq15 hw))
 have f111 := f104.same W109
 have f112 := f105.other W109 (Or.inr (sq16 hw))
 have f113 := f106.other W109 (Or.inr (sq17 hw))
 have f114 := f107.other W109 (Or.inr (sq18 hw))
 have f115 := f108.other W109 (Or.inr (sq19 hw))
 have f116 := (F_a2_vertexCount.other W102 (Or.inl ne_a1_a2.symm)).other W109 (Or.inl ne_a1_a2.symm)
 have f117 := (F_a2_roadCount.other W102 (Or.inl ne_a1_a2.symm)).other W109 (Or.inl ne_a1_a2.symm)
 refine dS st109 ?_
 show Aq T109 15 #[vr a1, vr a2, vj q3, vz, vj q4, vz] []
 refine aN X109 hx hby d3_15 rfl rfl ?_
 refine aN X109 hx hby d3_16 rfl rfl ?_
 obtain ⟨v118, T118, L118, X118, hQ118, st118⟩ := cV X109 hx hZ hown (tw35 hw) (tw36 hw) (tw38 hw) (tw37 hw) (tw3 hw) (tw39 hw) (nvc l Z a0 hw [] a2  h109 n0 (lw (lw Z0 W102) W109) f116) (W := 1) e109 ((E_a2.wr W102).wr W109) (g := (mkF m 17 #[vr a1, vr a2, vj q3, vz, vj q4, vz] [(.ref a2), (.ref a1)])) rfl hml rfl (argsL := []) (rest := [(.ref a1)]) (lenOf pd_8 rfl) rfl rfl rfl (hb hby d3_17) rfl
 refine Done.far st118 ?_
 obtain ⟨rfl, N118q, K118q⟩ := hQ118
 have Kk118 := (((kr h0 [a1]).wr W102 (Or.inl me0)).wr W109 (Or.inl me0)).trans K118q all0
 show Aq T118 20 #[vr a1, vr a2, vj q3, vz, vj q4, vz] [(.int 2), (.ref a1)]
 refine iC X118 hx hby d3_20 (z := 1) rfl ?_
 refine iA X118 hx hby d3_21 ?_
 rw [show ((2 : Int32) + (1 : Int32)) = (3 : Int32) from by decide]
 obtain ⟨T119, h119, k119, X119, e119, E119, A119, B119, st119⟩ := newPE X118 hx hZ (hw _ (List.mem_of_getElem? (i := 40) rfl)) rfl (g := (mkF m 22 #[vr a1, vr a2, vj q3, vz, vj q4, vz] [(.int 3), (.ref a1)])) rfl (hb hby d3_22) rfl (by decide) (cap := 3) (by decide) (by decide) (by decide) (by decide) (ad := "[Z") (by decide)
 obtain ⟨b119, gq119⟩ : ∃ z, z = T118.heap.size := ⟨_, rfl⟩
 rw [← gq119] at A119 B119 st119
 have sz_b119 := lb Kk118.1 gq119
 have f120 : Ax Z h119 b119 .boolean [(.int 0), (.int 0), (.int 0)] := Ax.new (ty := .boolean) (i := 3) A119 (by decide)
 refine dS st119 ?_
 show Aq T119 24 #[vr a1, vr a2, vj q3, vz, vj q4, vz] [(.ref b119), (.ref a1)]
 obtain ⟨T121, h121, X121, e121, W121, st121⟩ := putF X119 hx hZ hown (host := "") (Or.inl (tw41 hw)) Via.refl e119 ((f112.keep K118q nin0).ext E119) ((((E_a1.wr W102).wr W109).keep K118q).ext E119) (Or.inr ⟨(tw42 hw), rfl, hnm⟩) (tw25 hw) (ty := (.array .boolean)) (by decide) rfl rfl (g := (mkF m 24 #[vr a1, vr a2, vj q3, vz, vj q4, vz] [(.ref b119), (.ref a1)])) rfl rfl (hb hby d3_24)
 have f122 := ((f110.keep K118q nin0).ext E119).other W121 (Or.inr (sq20 hw))
 have f123 := ((f111.keep K118q nin0).ext E119).other W121 (Or.inr (sq21 hw))
 have f124 := ((f112.keep K118q nin0).ext E119).same W121
 have f125 := ((f113.keep K118q nin0).ext E119).other W121 (Or.inr (sq22 hw))
 have f126 := ((f114.keep K118q nin0).ext E119).other W121 (Or.inr (sq23 hw))
 have f127 := ((f115.keep K118q nin0).ext E119).other W121 (Or.inr (sq24 hw))
 have ne128 := nl (((E_a1.wr W102).wr W109).keep K118q).lt gq119
 have Z121 := lw (lq (lq (lw (lw Z0 W102) W109) K118q.1) E119.1) W121
 have N121 := Fr.snoc X121 (Fr.app (Fr.snoc X109 (Fr.snoc X102 N0 g_a1) g_a1) N118q) g_a1
 refine dS st121 ?_
 show Aq T121 27 #[vr a1, vr a2, vj q3, vz, vj q4, vz] []
 refine aN X121 hx hby d3_27 rfl rfl ?_
 refine aN X121 hx hby d3_28 rfl rfl ?_
 obtain ⟨v129, T129, L129, X129, hQ129, st129⟩ := cV X121 hx hZ hown (tw43 hw) (tw44 hw) (tw46 hw) (tw45 hw) (tw3 hw) (tw47 hw) (nrc l Z a0 hw [] a2  h121 n0 Z121 (((f117.keep K118q nin0).ext E119).other W121 (Or.inl ne_a1_a2.symm))) (W := 1) e121 (((((E_a2.wr W102).wr W109).keep K118q).ext E119).wr W121) (g := (mkF m 29 #[vr a1, vr a2, vj q3, vz, vj q4, vz] [(.ref a2), (.ref a1)])) rfl hml rfl (argsL := []) (rest := [(.ref a1)]) (lenOf pd_8 rfl) rfl rfl rfl (hb hby d3_29) rfl
 refine Done.far st129 ?_
 obtain ⟨rfl, N129q, K129q⟩ := hQ129
 have f130 := (((f116.keep K118q nin0).ext E119).other W121 (Or.inl ne_a1_a2.symm)).keep K129q nin0
 have f131 := (((f117.keep K118q nin0).ext E119).other W121 (Or.inl ne_a1_a2.symm)).keep K129q nin0
 show Aq T129 32 #[vr a1, vr a2, vj q3, vz, vj q4, vz] [(.int 2), (.ref a1)]
 refine iC X129 hx hby d3_32 (z := 1) rfl ?_
 refine iA X129 hx hby d3_33 ?_
 rw [show ((2 : Int32) + (1 : Int32)) = (3 : Int32) from by decide]
 obtain ⟨T132, h132, k132, X132, e132, E132, A132, B132, st132⟩ := newPE X129 hx hZ (hw _ (List.mem_of_getElem? (i := 48) rfl)) rfl (g := (mkF m 34 #[vr a1, vr a2, vj q3, vz, vj q4, vz] [(.int 3), (.ref a1)])) rfl (hb hby d3_34) rfl (by decide) (cap := 3) (by decide) (by decide) (by decide) (by decide) (ad := "[J") (by decide)
 obtain ⟨b132, gq132⟩ : ∃ z, z = T129.heap.size := ⟨_, rfl⟩
 rw [← gq132] at A132 B132 st132
 have f133 := ((((((E_a1.wr W102).wr W109).keep K118q).ext E119).wr W121).keep K129q).ext E132
 have f134 := ((((((E_a2.wr W102).wr W109).keep K118q).ext E119).wr W121).keep K129q).ext E132
 have sz_b132 := lb (((Kk118.ext E119).wr W121 (Or.inl me0)).trans K129q all0).1 gq132
 have f135 : Ax Z h132 b132 .long [(.long 0), (.long 0), (.long 0)] := Ax.new (ty := .long) (i := 3) A132 (by decide)
 refine dS st132 ?_
 show Aq T132 36 #[vr a1, vr a2, vj q3, vz, vj q4, vz] [(.ref b132), (.ref a1)]
 obtain ⟨T136, h136, X136, e136, W136, st136⟩ := putF X132 hx hZ hown (host := "") (Or.inl (tw49 hw)) Via.refl e132 ((f125.keep K129q nin0).ext E132) f133 (Or.inr ⟨(tw50 hw), rfl, hnm⟩) (tw25 hw) (ty := (.array .long)) (by decide) rfl rfl (g := (mkF m 36 #[vr a1, vr a2, vj q3, vz, vj q4, vz] [(.ref b132), (.ref a1)])) rfl rfl (hb hby d3_36)
 have f137 := ((f122.keep K129q nin0).ext E132).other W136 (Or.inr (sq25 hw))
 have f138 := ((f123.keep K129q nin0).ext E132).other W136 (Or.inr (sq26 hw))
 have f139 := ((f124.keep K129q nin0).ext E132).other W136 (Or.inr (sq27 hw))
 have f140 := ((f125.keep K129q nin0).ext E132).same W136
 have f141 := ((f126.keep K129q nin0).ext E132).other W136 (Or.inr (sq28 hw))
 have f142 := ((f127.keep K129q nin0).ext E132).other W136 (Or.inr (sq29 hw))
 have f143 := (((f120.other W121 ne128.symm).keep K129q nin0).ext E132).other W136 ne128.symm
 have ne144 := nl ((((((E_a1.wr W102).wr W109).keep K118q).ext E119).wr W121).keep K129q).lt gq132
 have K136 := ((((Kk118.ext E119).wr W121 (Or.inl me0)).trans K129q all0).ext E132).wr W136 (Or.inl me0)
 refine dS st136 ?_
 show Aq T136 39 #[vr a1, vr a2, vj q3, vz, vj q4, vz] []
 refine aN X136 hx hby d3_39 rfl rfl ?_
 refine aN X136 hx hby d3_40 rfl rfl ?_
 obtain ⟨v145, T145, L145, X145, hQ145, st145⟩ := cV X136 hx hZ hown (tw43 hw) (tw44 hw) (tw46 hw) (tw45 hw) (tw3 hw) (tw47 hw) (nrc l Z a0 hw [] a2  h136 n0 (lw (lq (lq Z121 K129q.1) E132.1) W136) ((f131.ext E132).other W136 (Or.inl ne_a1_a2.symm))) (W := 1) e136 (f134.wr W136) (g := (mkF m 41 #[vr a1, vr a2, vj q3, vz, vj q4, vz] [(.ref a2), (.ref a1)])) rfl hml rfl (argsL := []) (rest := [(.ref a1)]) (lenOf pd_8 rfl) rfl rfl rfl (hb hby d3_41) rfl
 refine Done.far st145 ?_
 obtain ⟨rfl, N145q, K145q⟩ := hQ145
 have Zk145 := lq (lw (lq (lq Z121 K129q.1) E132.1) W136) K145q.1
 show Aq T145 44 #[vr a1, vr a2, vj q3, vz, vj q4, vz] [(.int 2), (.ref a1)]
 refine iC X145 hx hby d3_44 (z := 1) rfl ?_
 refine iA X145 hx hby d3_45 ?_
 rw [show ((2 : Int32) + (1 : Int32)) = (3 : Int32) from by decide]
 obtain ⟨T146, h146, k146, X146, e146, E146, A146, B146, st146⟩ := newPE X145 hx hZ (hw _ (List.mem_of_getElem? (i := 48) rfl)) rfl (g := (mkF m 46 #[vr a1, vr a2, vj q3, vz, vj q4, vz] [(.int 3), (.ref a1)])) rfl (hb hby d3_46) rfl (by decide) (cap := 3) (by decide) (by decide) (by decide) (by decide) (ad := "[J") (by decide)
 obtain ⟨b146, gq146⟩ : ∃ z, z = T145.heap.size := ⟨_, rfl⟩
 rw [← gq146] at A146 B146 st146
 have f147 := (((f130.ext E132).other W136 (Or.inl ne_a1_a2.symm)).keep K145q nin0).ext E146
 have f148 := (((f131.ext E132).other W136 (Or.inl ne_a1_a2.symm)).keep K145q nin0).ext E146
 have f149 := (((((B119.wr W121).keep K129q).ext E132).wr W136).keep K145q).ext E146
 have sz_b146 := lb (K136.trans K145q all0).1 gq146
 have f150 : Ax Z h146 b146 .long [(.long 0), (.long 0), (.long 0)] := Ax.new (ty := .long) (i := 3) A146 (by decide)
 refine dS st146 ?_
 show Aq T146 48 #[vr a1, vr a2, vj q3, vz, vj q4, vz] [(.ref b146), (.ref a1)]
 obtain ⟨T151, h151, X151, e151, W151, st151⟩ := putF X146 hx hZ hown (host := "") (Or.inl (tw51 hw)) Via.refl e146 ((f141.keep K145q nin0).ext E146) (((f133.wr W136).keep K145q).ext E146) (Or.inr ⟨(tw52 hw), rfl, hnm⟩) (tw25 hw) (ty := (.array .long)) (by decide) rfl rfl (g := (mkF m 48 #[vr a1, vr a2, vj q3, vz, vj q4, vz] [(.ref b146), (.ref a1)])) rfl rfl (hb hby d3_48)
 have f152 := ((f137.keep K145q nin0).ext E146).other W151 (Or.inr (sq30 hw))
 have f153 := ((f138.keep K145q nin0).ext E146).other W151 (Or.inr (sq31 hw))
 have f154 := ((f139.keep K145q nin0).ext E146).other W151 (Or.inr (sq32 hw))
 have f155 := ((f140.keep K145q nin0).ext E146).other W151 (Or.inr (sq33 hw))
 have f156 := ((f141.keep K145q nin0).ext E146).same W151
 have f157 := ((f142.keep K145q nin0).ext E146).other W151 (Or.inr (sq34 hw))
 have f158 := (((f135.other W136 ne144.symm).keep K145q nin0).ext E146).other W151 ne144.symm
 have ne159 := nl ((f133.wr W136).keep K145q).lt gq146
 have N151 := Fr.snoc X151 (Fr.app (Fr.snoc X136 (Fr.app N121 N129q) g_a1) N145q) g_a1
 refine dS st151 ?_
 show Aq T151 51 #[vr a1, vr a2, vj q3, vz, vj q4, vz] []
 have ne160 := nl ((B132.wr W136).keep K145q).lt gq146
 exact Done.void X151 hx hlk hret (hb hby d3_51) (by decide) (by decide) ⟨b132, b146, rfl, N151, (by rw [e151]; exact ⟨(((K136.trans K145q all0).ext E146).wr W151 (Or.inl me0)), ((((f133.wr W136).keep K145q).ext E146).wr W151), f152, f153, f155, f156, f157, f158, (f150.other W151 ne159.symm), sz_b132, sz_b146, ne160⟩)⟩
theorem d6_0 : dq cd41 0 (.aload_n 0) 1 := by decide +kernel
theorem d6_1 : dq cd41 1 (.getfield 33) 3 := by decide +kernel
theorem d6_4 : dq cd41 4 (.iload_n 1) 1 := by decide +kernel
theorem d6_5 : dq cd41 5 (.lload_n 2) 1 := by decide +kernel
theorem d6_6 : dq cd41 6 .lastore 1 := by decide +kernel
theorem d6_7 : dq cd41 7 (.aload_n 0) 1 := by decide +kernel
theorem d6_8 : dq cd41 8 (.getfield 29) 3 := by decide +kernel
theorem d6_11 : dq cd41 11 (.iload_n 1) 1 := by decide +kernel
theorem d6_12 : dq cd41 12 (.lload 4) 2 := by decide +kernel
theorem d6_14 : dq cd41 14 .lastore 1 := by decide +kernel
theorem d6_15 : dq cd41 15 (.aload_n 0) 1 := by decide +kernel
theorem d6_16 : dq cd41 16 .dup 1 := by decide +kernel
theorem d6_17 : dq cd41 17 (.getfield 36) 3 := by decide +kernel
theorem d6_20 : dq cd41 20 (.lload 4) 2 := by decide +kernel
theorem d6_22 : dq cd41 22 .ladd 1 := by decide +kernel
theorem d6_23 : dq cd41 23 (.putfield 36) 3 := by decide +kernel
theorem d6_26 : dq cd41 26 .return_ 1 := by decide +kernel
theorem ef_6 (m : MethodId) (a1 : Addr) (p2 : Int32) (q3 : Int64) (q4 : Int64) : entryFrame m #[(.ref a1), (.int p2), (.long q3), (.long q4)] 6 = mkF m 0 #[.val (.ref a1), .val (.int p2), .val (.long q3), .second, .val (.long q4), .second] [] := by first | (simp [entryFrame, mkF, argsToLocals, Value.category]; done) | rfl
theorem par (l : Launch) (Z : State) (a0 : Array Value) (hw : HH a0 Z) (ws : List Jvm.Cond) (a1 : Addr) (p2 : Int32) (q3 q4 : Int64) (bl bs : Addr) (x0 x1 x2 y0 y1 y2 cn sp un : Int64) (h0 : Heap) (n0 : Nat) (Z0 : n0 ≤ h0.size) (E_a1 : Fl19 Z h0 a1) (F_a1_rowLength : Fl16 Z h0 a1 (.ref bl)) (F_a1_rowStart : Fl17 Z h0 a1 (.ref bs)) (F_a1_count : Fl18 Z h0 a1 (.long cn)) (F_a1_spacing : Fl13 Z h0 a1 (.long sp)) (F_a1_unitsPerLength : Fl14 Z h0 a1 (.long un)) (A_bl : Ax Z h0 bl .long [(.long x0), (.long x1), (.long x2)]) (A_bs : Ax Z h0 bs .long [(.long y0), (.long y1), (.long y2)]) (g_a1 : n0 ≤ a1) (g_bl : n0 ≤ bl) (g_bs : n0 ≤ bs) (ne_a1_bl : a1 ≠ bl) (ne_a1_bs : a1 ≠ bs) (ne_bl_bs : bl ≠ bs) (hr : p2 = (1 : Int32) ∨ p2 = (2 : Int32)) : MF l "com/example/dendrocover/dendrocover/Placement" "addRow" "(IJJ)V" prog_27_method_3_code 6 none ws ⟨0, 0, 0, 0⟩ Z h0 #[(.ref a1), (.int p2), (.long q3), (.long q4)] (fun v h L => v = none ∧ Fr n0 L ∧ Keep h0 h [a1, bl, bs] ∧ Fl19 Z h a1 ∧ Fl13 Z h a1 (.long sp) ∧ Fl14 Z h a1 (.long un) ∧ Fl16 Z h a1 (.ref bl) ∧ Fl17 Z h a1 (.ref bs) ∧ Fl18 Z h a1 (.long (cn + q4)) ∧ Ax Z h bl .long [(.long x0), (.long (if p2 = (1 : Int32) then q4 else x1)), (.long (if p2 = (1 : Int32) then x2 else q4))] ∧ Ax Z h bs .long [(.long y0), (.long (if p2 = (1 : Int32) then q3 else y1)), (.long (if p2 = (1 : Int32) then y2 else q3))]) := by
 refine own_body (n0 := n0) (plainFor_of_name pn_3) (fun m => ef_6 m a1 p2 q3 q4) ?_
 intro p e s m below meth c s₁ hZ hx hby hml hown hlk hret hnm X0 e0 N0
 show Aq s₁ 0 #[vr a1, vi p2, vj q3, vz, vj q4, vz] []
 rcases hr with rfl | rfl
 ·show Aq s₁ 0 #[vr a1, vi 1, vj q3, vz, vj q4, vz] []
  refine aN X0 hx hby d6_0 rfl rfl ?_
  obtain ⟨T101, X101, e101, st101⟩ := gF X0 hx hZ hown (tw51 hw) e0 F_a1_rowStart (g := (mkF m 1 #[vr a1, vi 1, vj q3, vz, vj q4, vz] [(.ref a1)])) rfl rfl (hb hby d6_1)
  refine dS st101 ?_
  show Aq T101 4 #[vr a1, vi 1, vj q3, vz, vj q4, vz] [(.ref bs)]
  refine iN X101 hx hby d6_4 rfl ?_
  refine jN X101 hx hby d6_5 rfl ?_
  obtain ⟨T102, h102, X102, e102, W102, A102, st102⟩ := stoJ X101 hx hZ e101 A_bs (j := (1 : Int32)) (by decide) (i := 1) (by decide) (Nat.le_of_ble_eq_true rfl) (g := (mkF m 6 #[vr a1, vi 1, vj q3, vz, vj q4, vz] [(.long q3), (.int 1), (.ref bs)])) rfl rfl (hb hby d6_6)
  have f103 : Ax Z h102 bs .long [(.long y0), (.long q3), (.long y2)] := A102
  refine dS st102 ?_
  show Aq T102 7 #[vr a1, vi 1, vj q3, vz, vj q4, vz] []
  refine aN X102 hx hby d6_7 rfl rfl ?_
  obtain ⟨T104, X104, e104, st104⟩ := gF X102 hx hZ hown (tw49 hw) e102 (F_a1_rowLength.other W102 (Or.inl ne_a1_bs)) (g := (mkF m 8 #[vr a1, vi 1, vj q3, vz, vj q4, vz] [(.ref a1)])) rfl rfl (hb hby d6_8)
  refine dS st104 ?_
  show Aq T104 11 #[vr a1, vi 1, vj q3, vz, vj q4, vz] [(.ref bl)]
  refine iN X104 hx hby d6_11 rfl ?_
  refine jL X104 hx hby d6_12 rfl ?_
  obtain ⟨T105, h105, X105, e105, W105, A105, st105⟩ := stoJ X104 hx hZ e104 (A_bl.other W102 ne_bl_bs) (j := (1 : Int32)) (by decide) (i := 1) (by decide) (Nat.le_of_ble_eq_true rfl) (g := (mkF m 14 #[vr a1, vi 1, vj q3, vz, vj q4, vz] [(.long q4), (.int 1), (.ref bl)])) rfl rfl (hb hby d6_14)
  have f106 := (F_a1_rowLength.other W102 (Or.inl ne_a1_bs)).other W105 (Or.inl ne_a1_bl)
  have f107 := (F_a1_rowStart.other W102 (Or.inl ne_a1_bs)).other W105 (Or.inl ne_a1_bl)
  have f108 := (F_a1_count.other W102 (Or.inl ne_a1_bs)).other W105 (Or.inl ne_a1_bl)
  have f109 := (F_a1_spacing.other W102 (Or.inl ne_a1_bs)).other W105 (Or.inl ne_a1_bl)
  have f110 := (F_a1_unitsPerLength.other W102 (Or.inl ne_a1_bs)).other W105 (Or.inl ne_a1_bl)
  have f111 : Ax Z h105 bl .long [(.long x0), (.long q4), (.long x2)] := A105
  have K105 := ((kr h0 [a1, bl, bs]).wr W102 (Or.inl me2)).wr W105 (Or.inl me1)
  refine dS st105 ?_
  show Aq T105 15 #[vr a1, vi 1, vj q3, vz, vj q4, vz] []
  refine aN X105 hx hby d6_15 rfl rfl ?_
  refine dU X105 hx hby d6_16 rfl ?_
  obtain ⟨T112, X112, e112, st112⟩ := gF X105 hx hZ hown (tw58 hw) e105 f108 (g := (mkF m 17 #[vr a1, vi 1, vj q3, vz, vj q4, vz] [(.ref a1), (.ref a1)])) rfl rfl (hb hby d6_17)
  refine dS st112 ?_
  show Aq T112 20 #[vr a1, vi 1, vj q3, vz, vj q4, vz] [(.long cn), (.ref a1)]
  refine jL X112 hx hby d6_20 rfl ?_
  refine dS (fun t k => XS.ladd X112.here hx rfl (hb hby d6_22) rfl k) ?_
  show Aq T112 23 #[vr a1, vi 1, vj q3, vz, vj q4, vz] [(.long (cn + q4)), (.ref a1)]
  obtain ⟨T113, h113, X113, e113, W113, st113⟩ := putF X112 hx hZ hown (host := "") (Or.inl (tw58 hw)) Via.refl e112 f108 ((E_a1.wr W102).wr W105) (Or.inl (tw59 hw)) (tw25 hw) (ty := .long) (by decide) rfl rfl (g := (mkF m 23 #[vr a1, vi 1, vj q3, vz, vj q4, vz] [(.long (cn + q4)), (.ref a1)])) rfl rfl (hb hby d6_23)
  have f114 := f106.other W113 (Or.inr (sq35 hw))
  have f115 := f107.other W113 (Or.inr (sq36 hw))
  have f116 := f108.same W113
  have f117 := f109.other W113 (Or.inr (sq37 hw))
  have f118 := f110.other W113 (Or.inr (sq38 hw))
  refine dS st113 ?_
  show Aq T113 26 #[vr a1, vi 1, vj q3, vz, vj q4, vz] []
  exact Done.void X113 hx hlk hret (hb hby d6_26) (by decide) (by decide) ⟨rfl, (Fr.snoc X113 (Fr.snoc X105 (Fr.snoc X102 N0 g_bs) g_bl) g_a1), (by rw [e113]; exact ⟨(K105.wr W113 (Or.inl me0)), (((E_a1.wr W102).wr W105).wr W113), f117, f118, f114, f115, f116, (f111.other W113 ne_a1_bl.symm), ((f103.other W105 ne_bl_bs.symm).other W113 ne_a1_bs.symm)⟩)⟩
 ·show Aq s₁ 0 #[vr a1, vi 2, vj q3, vz, vj q4, vz] []
  refine aN X0 hx hby d6_0 rfl rfl ?_
  obtain ⟨T119, X119, e119, st119⟩ := gF X0 hx hZ hown (tw51 hw) e0 F_a1_rowStart (g := (mkF m 1 #[vr a1, vi 2, vj q3, vz, vj q4, vz] [(.ref a1)])) rfl rfl (hb hby d6_1)
  refine dS st119 ?_
  show Aq T119 4 #[vr a1, vi 2, vj q3, vz, vj q4, vz] [(.ref bs)]
  refine iN X119 hx hby d6_4 rfl ?_
  refine jN X119 hx hby d6_5 rfl ?_
  obtain ⟨T120, h120, X120, e120, W120, A120, st120⟩ := stoJ X119 hx hZ e119 A_bs (j := (2 : Int32)) (by decide) (i := 2) (by decide) (Nat.le_of_ble_eq_true rfl) (g := (mkF m 6 #[vr a1, vi 2, vj q3, vz, vj q4, vz] [(.long q3), (.int 2), (.ref bs)])) rfl rfl (hb hby d6_6)
  have f121 : Ax Z h120 bs .long [(.long y0), (.long y1), (.long q3)] := A120
  refine dS st120 ?_
  show Aq T120 7 #[vr a1, vi 2, vj q3, vz, vj q4, vz] []
  refine aN X120 hx hby d6_7 rfl rfl ?_
  obtain ⟨T122, X122, e122, st122⟩ := gF X120 hx hZ hown (tw49 hw) e120 (F_a1_rowLength.other W120 (Or.inl ne_a1_bs)) (g := (mkF m 8 #[vr a1, vi 2, vj q3, vz, vj q4, vz] [(.ref a1)])) rfl rfl (hb hby d6_8)
  refine dS st122 ?_
  show Aq T122 11 #[vr a1, vi 2, vj q3, vz, vj q4, vz] [(.ref bl)]
  refine iN X122 hx hby d6_11 rfl ?_
  refine jL X122 hx hby d6_12 rfl ?_
  obtain ⟨T123, h123, X123, e123, W123, A123, st123⟩ := stoJ X122 hx hZ e122 (A_bl.other W120 ne_bl_bs) (j := (2 : Int32)) (by decide) (i := 2) (by decide) (Nat.le_of_ble_eq_true rfl) (g := (mkF m 14 #[vr a1, vi 2, vj q3, vz, vj q4, vz] [(.long q4), (.int 2), (.ref bl)])) rfl rfl (hb hby d6_14)
  have f124 := (F_a1_rowLength.other W120 (Or.inl ne_a1_bs)).other W123 (Or.inl ne_a1_bl)
  have f125 := (F_a1_rowStart.other W120 (Or.inl ne_a1_bs)).other W123 (Or.inl ne_a1_bl)
  have f126 := (F_a1_count.other W120 (Or.inl ne_a1_bs)).other W123 (Or.inl ne_a1_bl)
  have f127 := (F_a1_spacing.other W120 (Or.inl ne_a1_bs)).other W123 (Or.inl ne_a1_bl)
  have f128 := (F_a1_unitsPerLength.other W120 (Or.inl ne_a1_bs)).other W123 (Or.inl ne_a1_bl)
  have f129 : Ax Z h123 bl .long [(.long x0), (.long x1), (.long q4)] := A123
  have K123 := ((kr h0 [a1, bl, bs]).wr W120 (Or.inl me2)).wr W123 (Or.inl me1)
  refine dS st123 ?_
  show Aq T123 15 #[vr a1, vi 2, vj q3, vz, vj q4, vz] []
  refine aN X123 hx hby d6_15 rfl rfl ?_
  refine dU X123 hx hby d6_16 rfl ?_
  obtain ⟨T130, X130, e130, st130⟩ := gF X123 hx hZ hown (tw58 hw) e123 f126 (g := (mkF m 17 #[vr a1, vi 2, vj q3, vz, vj q4, vz] [(.ref a1), (.ref a1)])) rfl rfl (hb hby d6_17)
  refine dS st130 ?_
  show Aq T130 20 #[vr a1, vi 2, vj q3, vz, vj q4, vz] [(.long cn), (.ref a1)]
  refine jL X130 hx hby d6_20 rfl ?_
  refine dS (fun t k => XS.ladd X130.here hx rfl (hb hby d6_22) rfl k) ?_
  show Aq T130 23 #[vr a1, vi 2, vj q3, vz, vj q4, vz] [(.long (cn + q4)), (.ref a1)]
  obtain ⟨T131, h131, X131, e131, W131, st131⟩ := putF X130 hx hZ hown (host := "") (Or.inl (tw58 hw)) Via.refl e130 f126 ((E_a1.wr W120).wr W123) (Or.inl (tw59 hw)) (tw25 hw) (ty := .long) (by decide) rfl rfl (g := (mkF m 23 #[vr a1, vi 2, vj q3, vz, vj q4, vz] [(.long (cn + q4)), (.ref a1)])) rfl rfl (hb hby d6_23)
  have f132 := f124.other W131 (Or.inr (sq35 hw))
  have f133 := f125.other W131 (Or.inr (sq36 hw))
  have f134 := f126.same W131
  have f135 := f127.other W131 (Or.inr (sq37 hw))
  have f136 := f128.other W131 (Or.inr (sq38 hw))
  refine dS st131 ?_
  show Aq T131 26 #[vr a1, vi 2, vj q3, vz, vj q4, vz] []
  exact Done.void X131 hx hlk hret (hb hby d6_26) (by decide) (by decide) ⟨rfl, (Fr.snoc X131 (Fr.snoc X123 (Fr.snoc X120 N0 g_bs) g_bl) g_a1), (by rw [e131]; exact ⟨(K123.wr W131 (Or.inl me0)), (((E_a1.wr W120).wr W123).wr W131), f135, f136, f132, f133, f134, (f129.other W131 ne_a1_bl.symm), ((f121.other W123 ne_bl_bs.symm).other W131 ne_a1_bs.symm)⟩)⟩
theorem d8_0 : dq cd42 0 (.aload_n 0) 1 := by decide +kernel
theorem d8_1 : dq cd42 1 (.getfield 29) 3 := by decide +kernel
theorem d8_4 : dq cd42 4 (.iload_n 1) 1 := by decide +kernel
theorem d8_5 : dq cd42 5 .laload 1 := by decide +kernel
theorem d8_6 : dq cd42 6 .lreturn 1 := by decide +kernel
theorem ef_8 (m : MethodId) (a1 : Addr) (p2 : Int32) : entryFrame m #[(.ref a1), (.int p2)] 2 = mkF m 0 #[.val (.ref a1), .val (.int p2)] [] := by first | (simp [entryFrame, mkF, argsToLocals, Value.category]; done) | rfl
theorem pco (l : Launch) (Z : State) (a0 : Array Value) (hw : HH a0 Z) (ws : List Jvm.Cond) (a1 : Addr) (p2 : Int32) (bl : Addr) (x0 x1 x2 : Int64) (h0 : Heap) (n0 : Nat) (Z0 : n0 ≤ h0.size) (F_a1_rowLength : Fl16 Z h0 a1 (.ref bl)) (A_bl : Ax Z h0 bl .long [(.long x0), (.long x1), (.long x2)]) (hr : p2 = (1 : Int32) ∨ p2 = (2 : Int32)) : MF l "com/example/dendrocover/dendrocover/Placement" "centersOn" "(I)J" prog_27_method_7_code 2 (some .long) ws ⟨0, 0, 0, 0⟩ Z h0 #[(.ref a1), (.int p2)] (fun v h L => v = some (.long (if p2 = (1 : Int32) then x1 else x2)) ∧ Fr n0 L ∧ Keep h0 h []) := by
 refine own_body (n0 := n0) (plainFor_of_name pn_3) (fun m => ef_8 m a1 p2) ?_
 intro p e s m below meth c s₁ hZ hx hby hml hown hlk hret hnm X0 e0 N0
 show Aq s₁ 0 #[vr a1, vi p2] []
 rcases hr with rfl | rfl
 ·show Aq s₁ 0 #[vr a1, vi 1] []
  refine aN X0 hx hby d8_0 rfl rfl ?_
  obtain ⟨T101, X101, e101, st101⟩ := gF X0 hx hZ hown (tw49 hw) e0 F_a1_rowLength (g := (mkF m 1 #[vr a1, vi 1] [(.ref a1)])) rfl rfl (hb hby d8_1)
  refine dS st101 ?_
  show Aq T101 4 #[vr a1, vi 1] [(.ref bl)]
  refine iN X101 hx hby d8_4 rfl ?_
  refine dS (ldJ X101 hx hZ e101 A_bl (j := (1 : Int32)) (x := (.long x1)) (by decide) rfl (g := (mkF m 5 #[vr a1, vi 1] [(.int 1), (.ref bl)])) rfl rfl (hb hby d8_5)) ?_
  show Aq T101 6 #[vr a1, vi 1] [(.long x1)]
  exact Done.long X101 hx hlk hret (hb hby d8_6) (by decide) (by decide) ⟨rfl, N0, (by rw [e101]; exact (kr h0 []))⟩
 ·show Aq s₁ 0 #[vr a1, vi 2] []
  refine aN X0 hx hby d8_0 rfl rfl ?_
  obtain ⟨T102, X102, e102, st102⟩ := gF X0 hx hZ hown (tw49 hw) e0 F_a1_rowLength (g := (mkF m 1 #[vr a1, vi 2] [(.ref a1)])) rfl rfl (hb hby d8_1)
  refine dS st102 ?_
  show Aq T102 4 #[vr a1, vi 2] [(.ref bl)]
  refine iN X102 hx hby d8_4 rfl ?_
  refine dS (ldJ X102 hx hZ e102 A_bl (j := (2 : Int32)) (x := (.long x2)) (by decide) rfl (g := (mkF m 5 #[vr a1, vi 2] [(.int 2), (.ref bl)])) rfl rfl (hb hby d8_5)) ?_
  show Aq T102 6 #[vr a1, vi 2] [(.long x2)]
  exact Done.long X102 hx hlk hret (hb hby d8_6) (by decide) (by decide) ⟨rfl, N0, (by rw [e102]; exact (kr h0 []))⟩
theorem d9_0 : dq cd43 0 (.aload_n 0) 1 := by decide +kernel
theorem d9_1 : dq cd43 1 (.getfield 33) 3 := by decide +kernel
theorem d9_4 : dq cd43 4 (.iload_n 1) 1 := by decide +kernel
theorem d9_5 : dq cd43 5 .laload 1 := by decide +kernel
theorem d9_6 : dq cd43 6 (.lload_n 2) 1 := by decide +kernel
theorem d9_7 : dq cd43 7 (.aload_n 0) 1 := by decide +kernel
theorem d9_8 : dq cd43 8 (.getfield 7) 3 := by decide +kernel
theorem d9_11 : dq cd43 11 .lmul 1 := by decide +kernel
theorem d9_12 : dq cd43 12 .ladd 1 := by decide +kernel
theorem d9_13 : dq cd43 13 (.aload_n 0) 1 := by decide +kernel
theorem d9_14 : dq cd43 14 (.getfield 13) 3 := by decide +kernel
theorem d9_17 : dq cd43 17 (.invokestatic 47) 3 := by decide +kernel
theorem d9_20 : dq cd43 20 .areturn 1 := by decide +kernel
theorem ef_9 (m : MethodId) (a1 : Addr) (p2 : Int32) (q3 : Int64) : entryFrame m #[(.ref a1), (.int p2), (.long q3)] 4 = mkF m 0 #[.val (.ref a1), .val (.int p2), .val (.long q3), .second] [] := by first | (simp [entryFrame, mkF, argsToLocals, Value.category]; done) | rfl
theorem ppo (l : Launch) (Z : State) (a0 : Array Value) (hw : HH a0 Z) (ws : List Jvm.Cond) (a1 : Addr) (p2 : Int32) (q3 : Int64) (hO : Heap) (bs : Addr) (y0 y1 y2 sp yy : Int64) (h0 : Heap) (n0 : Nat) (Z0 : n0 ≤ h0.size) (hl_q3 : q3 = (0 : Int64)) (KO : Keep hO h0 []) (ST : Stat Z hO) (F_a1_rowStart : Fl17 Z h0 a1 (.ref bs)) (A_bs : Ax Z h0 bs .long [(.long y0), (.long y1), (.long y2)]) (F_a1_spacing : Fl13 Z h0 a1 (.long sp)) (F_a1_unitsPerLength : Fl14 Z h0 a1 (.long 1)) (hr : p2 = (1 : Int32) ∨ p2 = (2 : Int32)) (hyy : (if p2 = (1 : Int32) then y1 else y2) = yy) : MF l "com/example/dendrocover/dendrocover/Placement" "position" "(IJ)Lcom/example/dendrocover/dendrocover/Rational;" prog_27_method_8_code 4 (some (.object "com/example/dendrocover/dendrocover/Rational")) ws ⟨8, 26, 77, 127⟩ Z h0 #[(.ref a1), (.int p2), (.long q3)] (fun v h L => ∃ (rb nb nm db dm : Addr), v = some (.ref rb) ∧ Fr n0 L ∧ Keep h0 h [] ∧ Fl10 Z h rb ∧ Fl8 Z h rb (.ref nb) ∧ Fl9 Z h rb (.ref db) ∧ Fl7 Z h nb ∧ Fl6 Z h nb (.int (SG yy)) ∧ Fl5 Z h nb (.ref nm) ∧ Fl4 Z h nm ∧ Ax Z h nm .int ((ML yy).map Value.int) ∧ Fl7 Z h db ∧ Fl6 Z h db (.int 1) ∧ Fl5 Z h db (.ref dm) ∧ Fl4 Z h dm ∧ Ax Z h dm .int [(.int 1)]) := by
 refine own_body (n0 := n0) (plainFor_of_name pn_3) (fun m => ef_9 m a1 p2 q3) ?_
 intro p e s m below meth c s₁ hZ hx hby hml hown hlk hret hnm X0 e0 N0
 subst hl_q3
 show Aq s₁ 0 #[vr a1, vi p2, vj 0, vz] []
 rcases hr with rfl | rfl
 ·show Aq s₁ 0 #[vr a1, vi 1, vj 0, vz] []
  refine aN X0 hx hby d9_0 rfl rfl ?_
  obtain ⟨T101, X101, e101, st101⟩ := gF X0 hx hZ hown (tw51 hw) e0 F_a1_rowStart (g := (mkF m 1 #[vr a1, vi 1, vj 0, vz] [(.ref a1)])) rfl rfl (hb hby d9_1)
  refine dS st101 ?_
  show Aq T101 4 #[vr a1, vi 1, vj 0, vz] [(.ref bs)]
  refine iN X101 hx hby d9_4 rfl ?_
  refine dS (ldJ X101 hx hZ e101 A_bs (j := (1 : Int32)) (x := (.long y1)) (by decide) rfl (g := (mkF m 5 #[vr a1, vi 1, vj 0, vz] [(.int 1), (.ref bs)])) rfl rfl (hb hby d9_5)) ?_
  show Aq T101 6 #[vr a1, vi 1, vj 0, vz] [(.long y1)]
  refine jN X101 hx hby d9_6 rfl ?_
  refine aN X101 hx hby d9_7 rfl rfl ?_
  obtain ⟨T102, X102, e102, st102⟩ := gF X101 hx hZ hown (tw31 hw) e101 F_a1_spacing (g := (mkF m 8 #[vr a1, vi 1, vj 0, vz] [(.ref a1), (.long 0), (.long y1)])) rfl rfl (hb hby d9_8)
  refine dS st102 ?_
  show Aq T102 11 #[vr a1, vi 1, vj 0, vz] [(.long sp), (.long 0), (.long y1)]
  refine dS (fun t k => XS.lmul X102.here hx rfl (hb hby d9_11) rfl k) ?_
  show Aq T102 12 #[vr a1, vi 1, vj 0, vz] [(.long ((0 : Int64) * sp)), (.long y1)]
  refine dS (fun t k => XS.ladd X102.here hx rfl (hb hby d9_12) rfl k) ?_
  show Aq T102 13 #[vr a1, vi 1, vj 0, vz] [(.long (y1 + ((0 : Int64) * sp)))]
  rw [show (y1 + ((0 : Int64) * sp)) = y1 from (by rw [Int64.zero_mul, Int64.add_zero])]
  show Aq T102 13 #[vr a1, vi 1, vj 0, vz] [(.long y1)]
  obtain rfl : y1 = yy := hyy
  refine aN X102 hx hby d9_13 rfl rfl ?_
  obtain ⟨T103, X103, e103, st103⟩ := gF X102 hx hZ hown (tw33 hw) e102 F_a1_unitsPerLength (g := (mkF m 14 #[vr a1, vi 1, vj 0, vz] [(.ref a1), (.long y1)])) rfl rfl (hb hby d9_14)
  refine dS st103 ?_
  show Aq T103 17 #[vr a1, vi 1, vj 0, vz] [(.long 1), (.long y1)]
  obtain ⟨v104, T104, L104, X104, hQ104, st104⟩ := cS X103 hx hZ hown (tw75 hw) (tw76 hw) (tw77 hw) (tw78 hw) (of2 l Z a0 hw [] y1 (1 : Int64) hO h0 n0 Z0 rfl (KO.trans (kr h0 []) all0) ST) (W := 0) e103 (g := (mkF m 17 #[vr a1, vi 1, vj 0, vz] [(.long 1), (.long y1)])) rfl hml rfl (argsL := [(.long y1), (.long 1)]) (rest := []) (lenOf pd_22 rfl) rfl rfl rfl (hb hby d9_17) rfl
  refine dS st104 ?_
  obtain ⟨rb_104, nb_104, nm_104, db_104, dm_104, rfl, N104q, K104q, y104_0, y104_1, y104_2, y104_3, y104_4, y104_5, y104_6, y104_7, y104_8, y104_9, y104_10, y104_11, y104_12⟩ := hQ104
  show Aq T104 20 #[vr a1, vi 1, vj 0, vz] [(.ref rb_104)]
  exact Done.ref X104 hx hlk hret rfl rfl rfl (hb hby d9_20) (by decide) (by decide) ⟨rb_104, nb_104, nm_104, db_104, dm_104, rfl, (Fr.app N0 N104q), ⟨((kr h0 []).trans K104q all0), y104_0, y104_1, y104_2, y104_3, y104_4, y104_5, y104_6, y104_7, y104_8, y104_9, y104_10, y104_11, y104_12⟩⟩
 ·show Aq s₁ 0 #[vr a1, vi 2, vj 0, vz] []
  refine aN X0 hx hby d9_0 rfl rfl ?_
  obtain ⟨T105, X105, e105, st105⟩ := gF X0 hx hZ hown (tw51 hw) e0 F_a1_rowStart (g := (mkF m 1 #[vr a1, vi 2, vj 0, vz] [(.ref a1)])) rfl rfl (hb hby d9_1)
  refine dS st105 ?_
  show Aq T105 4 #[vr a1, vi 2, vj 0, vz] [(.ref bs)]
  refine iN X105 hx hby d9_4 rfl ?_
  refine dS (ldJ X105 hx hZ e105 A_bs (j := (2 : Int32)) (x := (.long y2)) (by decide) rfl (g := (mkF m 5 #[vr a1, vi 2, vj 0, vz] [(.int 2), (.ref bs)])) rfl rfl (hb hby d9_5)) ?_
  show Aq T105 6 #[vr a1, vi 2, vj 0, vz] [(.long y2)]
  refine jN X105 hx hby d9_6 rfl ?_
  refine aN X105 hx hby d9_7 rfl rfl ?_
  obtain ⟨T106, X106, e106, st106⟩ := gF X105 hx hZ hown (tw31 hw) e105 F_a1_spacing (g := (mkF m 8 #[vr a1, vi 2, vj 0, vz] [(.ref a1), (.long 0), (.long y2)])) rfl rfl (hb hby d9_8)
  refine dS st106 ?_
  show Aq T106 11 #[vr a1, vi 2, vj 0, vz] [(.long sp), (.long 0), (.long y2)]
  refine dS (fun t k => XS.lmul X106.here hx rfl (hb hby d9_11) rfl k) ?_
  show Aq T106 12 #[vr a1, vi 2, vj 0, vz] [(.long ((0 : Int64) * sp)), (.long y2)]
  refine dS (fun t k => XS.ladd X106.here hx rfl (hb hby d9_12) rfl k) ?_
  show Aq T106 13 #[vr a1, vi 2, vj 0, vz] [(.long (y2 + ((0 : Int64) * sp)))]
  rw [show (y2 + ((0 : Int64) * sp)) = y2 from (by rw [Int64.zero_mul, Int64.add_zero])]
  show Aq T106 13 #[vr a1, vi 2, vj 0, vz] [(.long y2)]
  obtain rfl : y2 = yy := hyy
  refine aN X106 hx hby d9_13 rfl rfl ?_
  obtain ⟨T107, X107, e107, st107⟩ := gF X106 hx hZ hown (tw33 hw) e106 F_a1_unitsPerLength (g := (mkF m 14 #[vr a1, vi 2, vj 0, vz] [(.ref a1), (.long y2)])) rfl rfl (hb hby d9_14)
  refine dS st107 ?_
  show Aq T107 17 #[vr a1, vi 2, vj 0, vz] [(.long 1), (.long y2)]
  obtain ⟨v108, T108, L108, X108, hQ108, st108⟩ := cS X107 hx hZ hown (tw75 hw) (tw76 hw) (tw77 hw) (tw78 hw) (of2 l Z a0 hw [] y2 (1 : Int64) hO h0 n0 Z0 rfl (KO.trans (kr h0 []) all0) ST) (W := 0) e107 (g := (mkF m 17 #[vr a1, vi 2, vj 0, vz] [(.long 1), (.long y2)])) rfl hml rfl (argsL := [(.long y2), (.long 1)]) (rest := []) (lenOf pd_22 rfl) rfl rfl rfl (hb hby d9_17) rfl
  refine dS st108 ?_
  obtain ⟨rb_108, nb_108, nm_108, db_108, dm_108, rfl, N108q, K108q, y108_0, y108_1, y108_2, y108_3, y108_4, y108_5, y108_6, y108_7, y108_8, y108_9, y108_10, y108_11, y108_12⟩ := hQ108
  show Aq T108 20 #[vr a1, vi 2, vj 0, vz] [(.ref rb_108)]
  exact Done.ref X108 hx hlk hret rfl rfl rfl (hb hby d9_20) (by decide) (by decide) ⟨rb_108, nb_108, nm_108, db_108, dm_108, rfl, (Fr.app N0 N108q), ⟨((kr h0 []).trans K108q all0), y108_0, y108_1, y108_2, y108_3, y108_4, y108_5, y108_6, y108_7, y108_8, y108_9, y108_10, y108_11, y108_12⟩⟩
theorem d7_0 : dq cd44 0 (.aload_n 0) 1 := by decide +kernel
theorem d7_1 : dq cd44 1 (.getfield 36) 3 := by decide +kernel
theorem d7_4 : dq cd44 4 .lreturn 1 := by decide +kernel
theorem ef_7 (m : MethodId) (a1 : Addr) : entryFrame m #[(.ref a1)] 1 = mkF m 0 #[.val (.ref a1)] [] := by first | (simp [entryFrame, mkF, argsToLocals, Value.category]; done) | rfl
theorem pcn (l : Launch) (Z : State) (a0 : Array Value) (hw : HH a0 Z) (ws : List Jvm.Cond) (a1 : Addr) (cn : Int64) (h0 : Heap) (n0 : Nat) (Z0 : n0 ≤ h0.size) (F_a1_count : Fl18 Z h0 a1 (.long cn)) : MF l "com/example/dendrocover/dendrocover/Placement" "count" "()J" prog_27_method_5_code 1 (some .long) ws ⟨0, 0, 0, 0⟩ Z h0 #[(.ref a1)] (fun v h L => v = some (.long cn) ∧ Fr n0 L ∧ Keep h0 h []) := by
 refine own_body (n0 := n0) (plainFor_of_name pn_3) (fun m => ef_7 m a1) ?_
 intro p e s m below meth c s₁ hZ hx hby hml hown hlk hret hnm X0 e0 N0
 show Aq s₁ 0 #[vr a1] []
 refine aN X0 hx hby d7_0 rfl rfl ?_
 obtain ⟨T101, X101, e101, st101⟩ := gF X0 hx hZ hown (tw58 hw) e0 F_a1_count (g := (mkF m 1 #[vr a1] [(.ref a1)])) rfl rfl (hb hby d7_1)
 refine dS st101 ?_
 show Aq T101 4 #[vr a1] [(.long cn)]
 exact Done.long X101 hx hlk hret (hb hby d7_4) (by decide) (by decide) ⟨rfl, N0, (by rw [e101]; exact (kr h0 []))⟩
theorem own_dupx2 {tb : Tables} [Ours tb] {e : Env} {below : List Frame} {T target : State} {m : MethodId} {c : Code} {g : JFrame} (h : At T m c below) (hx : tb.exec = Jvm.exec) (hg : g.method = m) {x y : Int32} {r : Addr} {rest : List Value} (hd : decode c.code g.pc = .ok (.dup_x2, 1)) (hs : g.stack = .int x :: .int y :: .ref r :: rest)
  (hr : Steps tb e below (T.setTop { g with pc := g.pc + 1, stack := .int x :: .int y :: .ref r :: .int x :: rest }) target) : Steps tb e below (T.setTop g) target := by
 subst hg
 jvm_step h [h.top, hx, hd, hs, Value.category]
 exact hr
def fv (F : List Int32) (i : Nat) : Int := (F[i]?.getD 0).toInt
def cE (f s : Nat → Int) : Nat → Int → Int
 | 0, _ => 0
 | n + 1, x => cE f s n x + (if f (n + 1) = x then 1 else 0) + (if s (n + 1) = x then 1 else 0)
def cL (f s : Nat → Int) : Nat → Int → Int
 | 0, _ => 0
 | n + 1, x => cL f s n x + (if f (n + 1) ≤ x then 1 else 0) + (if s (n + 1) ≤ x then 1 else 0)
theorem cE_succ (f s : Nat → Int) (n : Nat) (x : Int) : cE f s (n + 1) x = cE f s n x + (if f (n + 1) = x then 1 else 0) + (if s (n + 1) = x then 1 else 0) := rfl
theorem cL_succ (f s : Nat → Int) (n : Nat) (x : Int) : cL f s (n + 1) x = cL f s n x + (if f (n + 1) ≤ x then 1 else 0) + (if s (n + 1) ≤ x then 1 else 0) := rfl
theorem cE_rng (f s : Nat → Int) (n : Nat) (x : Int) : 0 ≤ cE f s n x ∧ cE f s n x ≤ 2 * n := by
 induction n with
 | zero => exact ⟨Int.le_refl _, Int.le_refl _⟩
 | succ n ih => rw [cE_succ]; split <;> split <;> omega
theorem cL_rng (f s : Nat → Int) (n : Nat) (x : Int) : 0 ≤ cL f s n x ∧ cL f s n x ≤ 2 * n := by
 induction n with
 | zero => exact ⟨Int.le_refl _, Int.le_refl _⟩
 | succ n ih => rw [cL_succ]; split <;> split <;> omega
theorem cL_step (f s : Nat → Int) (n : Nat) (x : Int) : cL f s n x = cL f s n (x - 1) + cE f s n x := by
 induction n with
 | zero => rfl
 | succ n ih => rw [cL_succ, cL_succ, cE_succ, ih]; repeat' split <;> omega
theorem cE_mono (f s : Nat → Int) (i n : Nat) (x : Int) (h : i ≤ n) : cE f s i x ≤ cE f s n x := by
 induction n with
 | zero => rw [Nat.le_zero.mp h]; exact Int.le_refl _
 | succ n ih =>
  by_cases q : i = n + 1
  ·rw [q]; exact Int.le_refl _
  ·have := ih (by omega); rw [cE_succ]; split <;> split <;> omega
theorem cL_zero (f s : Nat → Int) (n : Nat) (v : Int) (hf : ∀ i, 1 ≤ i → i ≤ n → 1 ≤ f i ∧ f i ≤ v) (hs : ∀ i, 1 ≤ i → i ≤ n → 1 ≤ s i ∧ s i ≤ v) : cL f s n 0 = 0 := by
 induction n with
 | zero => rfl
 | succ n ih =>
  have a := hf (n + 1) (by omega) (by omega)
  have b := hs (n + 1) (by omega) (by omega)
  rw [cL_succ, ih (fun i h1 h2 => hf i h1 (by omega)) (fun i h1 h2 => hs i h1 (by omega)), if_neg (by omega), if_neg (by omega)]; rfl
def SV (ss : List Int32) (g : Int → Int) : Prop := ∀ (j : Nat) (y : Int32), ss[j]? = some y → 1 ≤ j → y.toInt = g j
theorem SV.set {ss : List Int32} {g : Int → Int} (H : SV ss g) {k : Nat} {x : Int} (hk : (k : Int) = x) {z : Int32} {d : Int} (hz : z.toInt = d) {ss' : List Int32} (e : ss' = ss.set k z) : SV ss' (fun j => if j = x then d else g j) := by
 subst e
 intro j y hy hj
 rw [List.getElem?_set] at hy
 by_cases q : k = j
 ·subst q
  rw [if_pos rfl] at hy
  split at hy
  ·cases hy; simp [hk, hz]
  ·cases hy
 ·rw [if_neg q] at hy
  have := H j y hy hj
  show y.toInt = if (j : Int) = x then d else g j
  rw [if_neg (by omega)]; exact this
theorem SV.same {ss : List Int32} {g g' : Int → Int} (H : SV ss g) (q : ∀ j : Int, 1 ≤ j → g j = g' j) : SV ss g' := fun j y hy hj => by rw [← q j (by omega)]; exact H j y hy hj
theorem own_len {ss ss' : List Int32} {k : Nat} {z : Int32} {n : Nat} (h : ss.length = n) (e : ss' = ss.set k z) : ss'.length = n := by rw [e, List.length_set, h]
theorem own_fv {F : List Int32} {k : Nat} {x : Int32} (h : F[k]? = some x) : fv F k = x.toInt := by unfold fv; rw [h]; rfl
theorem own_clamp {x : Int32} (h : 0 ≤ x.toInt) : (x.toNatClampNeg : Int) = x.toInt := by rw [Int32.toNatClampNeg]; omega
theorem own_nneg {x : Int32} (h : 0 ≤ x.toInt) : ¬ x < 0 := by rw [Int32.lt_iff_toInt_lt]; show ¬ _ < (0 : Int); omega
theorem own_plus {x y : Int32} {d : Int} (hd : y.toInt = d) (h1 : -2147483648 ≤ x.toInt + d) (h2 : x.toInt + d < 2147483648) : (x + y).toInt = x.toInt + d := by
 have a := c_iadd x y; have r := rng32 (x + y); omega
theorem own_minus {x y : Int32} {d : Int} (hd : y.toInt = d) (h1 : -2147483648 ≤ x.toInt - d) (h2 : x.toInt - d < 2147483648) : (x - y).toInt = x.toInt - d := by
 have a := c_isub x y; have r := rng32 (x - y); omega
theorem own_one : (1 : Int32).toInt = 1 := rfl
theorem own_get {xs : List Int32} {k : Nat} (h : k < xs.length) : ∃ x, xs[k]? = some x := ⟨_, List.getElem?_eq_getElem h⟩
theorem own_idx {x : Int32} {n m : Nat} (h : x.toInt = (n : Int)) (hl : n < m) : 0 ≤ x.toInt ∧ x.toNatClampNeg = n ∧ x.toNatClampNeg < m := by
 have : x.toNatClampNeg = n := by rw [Int32.toNatClampNeg]; omega
 exact ⟨by omega, this, by omega⟩
theorem own_in {x : Int32} {vv m : Nat} (h : 1 ≤ x.toInt ∧ x.toInt ≤ (vv : Int) + 1) (hl : m = vv + 2) : 0 ≤ x.toInt ∧ x.toNatClampNeg < m ∧ (x.toNatClampNeg : Int) = x.toInt ∧ 1 ≤ x.toNatClampNeg := by
 have := own_clamp (x := x) (by omega)
 omega
theorem own_in0 {x : Int32} {k m : Nat} (h0 : 0 ≤ x.toInt) (h : x.toInt < (k : Int)) (hl : m = k) : x.toNatClampNeg < m ∧ (x.toNatClampNeg : Int) = x.toInt := by
 have := own_clamp h0
 omega
theorem SV.at {ss : List Int32} {g : Int → Int} (H : SV ss g) {x y : Int32} (h : ss[x.toNatClampNeg]? = some y) (h1 : 1 ≤ x.toNatClampNeg) (hc : (x.toNatClampNeg : Int) = x.toInt) : y.toInt = g x.toInt := by rw [← hc]; exact H _ _ h h1
theorem own_m1 {x : Int32} {b : Int} (h : 1 ≤ x.toInt ∧ x.toInt ≤ b) : (x - (1 : Int32)).toInt = x.toInt - 1 ∧ 0 ≤ (x - (1 : Int32)).toInt ∧ (x - (1 : Int32)).toInt < b := by
 have r := rng32 x
 have := own_minus (x := x) own_one (by omega) (by omega)
 omega
theorem own_p1 {x : Int32} {b : Int} (h : 0 ≤ x.toInt ∧ x.toInt ≤ b) (hb : b < 2147483647) : (x + (1 : Int32)).toInt = x.toInt + 1 := own_plus own_one (by omega) (by omega)
theorem own_dec {x : Int32} {n : Nat} (h : x.toInt = ((n + 1 : Nat) : Int)) : (x + (-1 : Int32)).toInt = (n : Int) := by
 have r := rng32 x
 rw [own_plus (d := -1) rfl (by omega) (by omega)]; omega
theorem own_inc {x : Int32} {n : Int} (h : x.toInt = n) (hb : n < 2147483647) : (x + (1 : Int32)).toInt = n + 1 := by
 have r := rng32 x
 rw [own_plus own_one (by omega) (by omega)]; omega
theorem own_cast (tt : Nat) : (tt : Int) = ((tt + 1 : Nat) : Int) - 1 := by omega
theorem net_a {f s : Nat → Int} {nn jj : Nat} {y g : Int} (hj : jj + 1 ≤ nn) (hs : s (jj + 1) = y) (hg : g = cL f s nn (y - 1) + cE f s (jj + 1) y) : 1 ≤ g ∧ g ≤ ((2 * nn : Nat) : Int) := by
 have k1 := cE_succ f s jj y
 rw [if_pos hs] at k1
 have k2 := cE_mono f s (jj + 1) nn y hj
 have k3 := cL_step f s nn y
 have k4 := cL_rng f s nn y
 have k5 := cL_rng f s nn (y - 1)
 have k6 := cE_rng f s jj y
 have k7 : 0 ≤ (if f (jj + 1) = y then (1 : Int) else 0) := by split <;> decide
 generalize (if f (jj + 1) = y then (1 : Int) else 0) = q at *
 omega
theorem net_b {f s : Nat → Int} {nn jj : Nat} {x y gx gy : Int} (hj : jj + 1 ≤ nn) (hf : f (jj + 1) = x) (hs : s (jj + 1) = y) (hgy : gy = cL f s nn (y - 1) + cE f s (jj + 1) y) (hgx : gx = if x = y then gy - 1 else cL f s nn (x - 1) + cE f s (jj + 1) x) : gx = cL f s nn (x - 1) + cE f s jj x + 1 ∧ 1 ≤ gx ∧ gx ≤ ((2 * nn : Nat) : Int) := by
 have e : gx = cL f s nn (x - 1) + cE f s jj x + 1 := by
  have k1 := cE_succ f s jj x
  rw [if_pos hf] at k1
  by_cases q : x = y
  ·rw [if_pos q] at hgx
   rw [if_pos (hs.trans q.symm)] at k1
   rw [hgx, hgy, ← q]; omega
  ·rw [if_neg q] at hgx
   rw [if_neg (fun u => q (u.symm.trans hs))] at k1
   rw [hgx, k1]; omega
 have k1 := cE_succ f s jj x
 rw [if_pos hf] at k1
 have k2 := cE_mono f s (jj + 1) nn x hj
 have k3 := cL_step f s nn x
 have k4 := cL_rng f s nn x
 have k5 := cL_rng f s nn (x - 1)
 have k6 := cE_rng f s jj x
 have k7 : 0 ≤ (if s (jj + 1) = x then (1 : Int) else 0) := by split <;> decide
 generalize (if s (jj + 1) = x then (1 : Int) else 0) = q at *
 omega
theorem net_c {f s : Nat → Int} {nn jj : Nat} {x y gx gy : Int} (hf : f (jj + 1) = x) (hs : s (jj + 1) = y) (hgy : gy = cL f s nn (y - 1) + cE f s (jj + 1) y) (hgx : gx = cL f s nn (x - 1) + cE f s jj x + 1) (j : Int) : (if j = x then gx - 1 else if j = y then gy - 1 else cL f s nn (j - 1) + cE f s (jj + 1) j) = cL f s nn (j - 1) + cE f s jj j := by
 have k1 := cE_succ f s jj j
 by_cases q1 : j = x
 ·rw [if_pos q1, q1]; omega
 ·rw [if_neg q1]
  rw [if_neg (fun u => q1 (u.symm.trans hf))] at k1
  by_cases q2 : j = y
  ·rw [if_pos q2]
   rw [if_pos (hs.trans q2.symm)] at k1
   rw [hgy, ← q2, k1]; omega
  ·rw [if_neg q2]
   rw [if_neg (fun u => q2 (u.symm.trans hs))] at k1
   rw [k1]; omega
theorem net_d {f s : Nat → Int} {ii : Nat} {x y gx gy : Int} (hf : f (ii + 1) = x) (hs : s (ii + 1) = y) (hgx : gx = cE f s ii x) (hgy : gy = if y = x then gx + 1 else cE f s ii y) (j : Int) : (if j = y then gy + 1 else if j = x then gx + 1 else cE f s ii j) = cE f s (ii + 1) j := by
 have k1 := cE_succ f s ii j
 by_cases q1 : j = y
 ·rw [if_pos q1]
  rw [if_pos (hs.trans q1.symm)] at k1
  by_cases q2 : y = x
  ·rw [if_pos q2] at hgy
   rw [if_pos (hf.trans (q2.symm.trans q1.symm))] at k1
   rw [k1, hgy, hgx, q1, q2]
  ·rw [if_neg q2] at hgy
   rw [if_neg (fun u : f (ii + 1) = j => q2 (q1.symm.trans (u.symm.trans hf)))] at k1
   rw [k1, hgy, q1]; omega
 ·rw [if_neg q1]
  rw [if_neg (fun u : s (ii + 1) = j => q1 (u.symm.trans hs))] at k1
  by_cases q2 : j = x
  ·rw [if_pos q2]
   rw [if_pos (hf.trans q2.symm)] at k1
   rw [k1, hgx, q2]; omega
  ·rw [if_neg q2]
   rw [if_neg (fun u : f (ii + 1) = j => q2 (u.symm.trans hf))] at k1
   rw [k1]; omega
theorem net_e {f s : Nat → Int} {ii nn : Nat} {x y gx gy : Int} (hi : ii ≤ nn) (hgx : gx = cE f s ii x) (hgy : gy = if y = x then gx + 1 else cE f s ii y) : 0 ≤ gy ∧ gy ≤ 2 * (nn : Int) + 1 := by
 have k1 := cE_rng f s ii x
 have k2 := cE_rng f s ii y
 rw [hgy]
 split <;> omega
theorem net_f {f s : Nat → Int} {nn : Nat} (tt : Nat) (j : Int) : (if j = (tt : Int) then cL f s nn (tt : Int) else if j < (tt : Int) then cL f s nn j else cE f s nn j) = if j < ((tt + 1 : Nat) : Int) then cL f s nn j else cE f s nn j := by
 by_cases q : j = (tt : Int)
 ·rw [if_pos q, if_pos (by omega), q]
 ·rw [if_neg q]
  by_cases q2 : j < (tt : Int)
  ·rw [if_pos q2, if_pos (by omega)]
  ·rw [if_neg q2, if_neg (by omega)]
theorem net_g {f s : Nat → Int} {nn tt : Nat} {a b : Int32} (ha : a.toInt = cL f s nn ((tt : Int) - 1)) (hb : b.toInt = cE f s nn (tt : Int)) (hn : nn ≤ 100) : (a + b).toInt = cL f s nn (tt : Int) := by
 have k1 := cE_rng f s nn (tt : Int)
 have k2 := cL_rng f s nn ((tt : Int) - 1)
 have k3 := cL_step f s nn (tt : Int)
 rw [own_plus (d := b.toInt) rfl (by omega) (by omega)]; omega
theorem d1_135 : dq cd45 135 (.iload 7) 2 := by decide +kernel
theorem d1_137 : dq cd45 137 (.iconst 1) 1 := by decide +kernel
theorem d1_138 : dq cd45 138 (.if_icmp .lt 52) 3 := by decide +kernel
theorem d1_141 : dq cd45 141 (.aload_n 0) 1 := by decide +kernel
theorem d1_142 : dq cd45 142 (.getfield 29) 3 := by decide +kernel
theorem d1_145 : dq cd45 145 (.aload_n 0) 1 := by decide +kernel
theorem d1_146 : dq cd45 146 (.getfield 26) 3 := by decide +kernel
theorem d1_149 : dq cd45 149 (.aload 4) 2 := by decide +kernel
theorem d1_151 : dq cd45 151 (.iload 7) 2 := by decide +kernel
theorem d1_153 : dq cd45 153 .iaload 1 := by decide +kernel
theorem d1_154 : dq cd45 154 .dup2 1 := by decide +kernel
theorem d1_155 : dq cd45 155 .iaload 1 := by decide +kernel
theorem d1_156 : dq cd45 156 (.iconst 1) 1 := by decide +kernel
theorem d1_157 : dq cd45 157 .isub 1 := by decide +kernel
theorem d1_158 : dq cd45 158 .dup_x2 1 := by decide +kernel
theorem d1_159 : dq cd45 159 .iastore 1 := by decide +kernel
theorem d1_160 : dq cd45 160 (.iload 7) 2 := by decide +kernel
theorem d1_162 : dq cd45 162 .iastore 1 := by decide +kernel
theorem d1_163 : dq cd45 163 (.aload_n 0) 1 := by decide +kernel
theorem d1_164 : dq cd45 164 (.getfield 29) 3 := by decide +kernel
theorem d1_167 : dq cd45 167 (.aload_n 0) 1 := by decide +kernel
theorem d1_168 : dq cd45 168 (.getfield 26) 3 := by decide +kernel
theorem d1_171 : dq cd45 171 (.aload_n 3) 1 := by decide +kernel
theorem d1_172 : dq cd45 172 (.iload 7) 2 := by decide +kernel
theorem d1_174 : dq cd45 174 .iaload 1 := by decide +kernel
theorem d1_175 : dq cd45 175 .dup2 1 := by decide +kernel
theorem d1_176 : dq cd45 176 .iaload 1 := by decide +kernel
theorem d1_177 : dq cd45 177 (.iconst 1) 1 := by decide +kernel
theorem d1_178 : dq cd45 178 .isub 1 := by decide +kernel
theorem d1_179 : dq cd45 179 .dup_x2 1 := by decide +kernel
theorem d1_180 : dq cd45 180 .iastore 1 := by decide +kernel
theorem d1_181 : dq cd45 181 (.iload 7) 2 := by decide +kernel
theorem d1_183 : dq cd45 183 .iastore 1 := by decide +kernel
theorem d1_184 : dq cd45 184 (.iinc 7 (-1)) 3 := by decide +kernel
theorem d1_187 : dq cd45 187 (.goto (-52)) 3 := by decide +kernel
theorem d1_190 : dq cd45 190 .return_ 1 := by decide +kernel
theorem lp135 {p : Program} {l : Launch} {e : Env} {s : State} {m : MethodId} {args : Array Value} {below : List Frame} {meth : Method} {c : Code} {Z : State} {a0 : Array Value} {n0 : Nat} {hO : Heap} (a1 : Addr) (p2 p3 : Int32) (a4 a5 a6 : Addr) (F S : List Int32) (nn vv : Nat) (b1 b2 : Addr) (i6 : Int32)
  (hx : p.tables.exec = Jvm.exec) (hZ : Z.Warmed39 s.vm) (hw : HH a0 Z) (hby : c.code = prog_20_method_1_code) (hml : c.maxLocals = 8) (hown : s.vm.findClass "com/example/dendrocover/dendrocover/Network" = some m.cls) (hlk : meth.locks = false) (hret : meth.sig.returnType = (none : Option FieldType)) (hnm : meth.name = "<init>") (g1 : n0 ≤ a1) (hv : p2.toInt = vv) (hv2 : vv ≤ 2) (hn : p3.toInt = nn) (hn2 : nn ≤ 2) (hF : nn < F.length) (hS : nn < S.length) (hf : ∀ i, 1 ≤ i → i ≤ nn → 1 ≤ fv F i ∧ fv F i ≤ (vv : Int)) (hs : ∀ i, 1 ≤ i → i ≤ nn → 1 ≤ fv S i ∧ fv S i ≤ (vv : Int)) (gb : n0 ≤ b1) (gi : n0 ≤ b2) (sz_b1 : hO.size ≤ b1) (sz_b2 : hO.size ≤ b2) (ne_a1_a4 : a1 ≠ a4) (ne_a1_a5 : a1 ≠ a5) (ne_a1_b1 : a1 ≠ b1) (ne_a4_b1 : a4 ≠ b1) (ne_a5_b1 : a5 ≠ b1) (ne_a1_b2 : a1 ≠ b2) (ne_a4_b2 : a4 ≠ b2) (ne_a5_b2 : a5 ≠ b2) (ne_b1_b2 : b1 ≠ b2) :
  ∀ (k : Nat) (T : State) (locs : List Loc) (h0 : Heap) (ss : List Int32) (ws : List Int32) (i7 : Int32) (ii : Nat) (X0 : Stand p l e ({ frames := 1, cells := 2, slots := 8, locals := 12 } : Room) s m args below meth c T locs 2 8) (N0 : Fr n0 locs) (Z0 : n0 ≤ h0.size) (e0 : T.heap = h0) (K0 : Keep hO h0 [a1]) (E1 : Fl20 Z h0 a1) (F_vertexCount : Fl11 Z h0 a1 (.int p2)) (F_roadCount : Fl12 Z h0 a1 (.int p3)) (F_firstEnd : Fl21 Z h0 a1 (.ref a4)) (F_secondEnd : Fl22 Z h0 a1 (.ref a5)) (F_length : Fl23 Z h0 a1 (.ref a6)) (F_incidenceStart : Fl24 Z h0 a1 (.ref b1)) (F_incident : Fl25 Z h0 a1 (.ref b2)) (A4 : Ax Z h0 a4 .int (F.map Value.int)) (A5 : Ax Z h0 a5 .int (S.map Value.int)) (Ab : Ax Z h0 b1 .int (ss.map Value.int)) (Ai : Ax Z h0 b2 .int (ws.map Value.int)) (hlen : ss.length = vv + 2) (hwl : ws.length = 2 * nn) (hk : ii < k) (hi : i7.toInt = ii) (hii : ii ≤ nn) (hsv : SV ss (fun j => cL (fv F) (fv S) nn (j - 1) + cE (fv F) (fv S) ii j)), Done p e below s (fun v h L => v = none ∧ Fr n0 L ∧ Keep hO h [a1] ∧ Fl20 Z h a1 ∧ Fl11 Z h a1 (.int p2) ∧ Fl12 Z h a1 (.int p3) ∧ Fl21 Z h a1 (.ref a4) ∧ Fl22 Z h a1 (.ref a5) ∧ Fl23 Z h a1 (.ref a6)) ({ frames := 1, cells := 2, slots := 8, locals := 12 } : Room).cells ({ frames := 1, cells := 2, slots := 8, locals := 12 } : Room).slots (T.setTop (mkF m 135 #[vr a1, vi p2, vi p3, vr a4, vr a5, vr a6, vi i6, vi i7] [])) := by
 intro k
 induction k with
 | zero => intro T locs h0 ss ws i7 ii X0 N0 Z0 e0 K0 E1 F_vertexCount F_roadCount F_firstEnd F_secondEnd F_length F_incidenceStart F_incident A4 A5 Ab Ai hlen hwl hk hi hii hsv; exact absurd hk (Nat.not_lt_zero _)
 | succ k ih =>
  intro T locs h0 ss ws i7 ii X0 N0 Z0 e0 K0 E1 F_vertexCount F_roadCount F_firstEnd F_secondEnd F_length F_incidenceStart F_incident A4 A5 Ab Ai hlen hwl hk hi hii hsv
  show Aq T 135 #[vr a1, vi p2, vi p3, vr a4, vr a5, vr a6, vi i6, vi i7] []
  refine iL X0 hx hby d1_135 rfl ?_
  refine iC X0 hx hby d1_137 (z := 1) rfl ?_
  by_cases c1 : i7 < (1 : Int32)
  ·refine cY X0 hx hby d1_138 (pc' := 190) (tlt c1).1 (H := ?_)
   exact Done.void X0 hx hlk hret (hb hby d1_190) (by decide) (by decide) ⟨rfl, N0, (by rw [e0]; exact ⟨K0, E1, F_vertexCount, F_roadCount, F_firstEnd, F_secondEnd, F_length⟩)⟩
  ·refine cF X0 hx hby d1_138 (flt c1).1 ?_
   have hge : 1 ≤ i7.toInt := by have := Int.not_lt.mp (fun q => c1 (Int32.lt_iff_toInt_lt.mpr q)); have e1 : (1 : Int32).toInt = 1 := rfl; omega
   refine aN X0 hx hby d1_141 rfl rfl ?_
   obtain ⟨T101, X101, e101, st101⟩ := gF X0 hx hZ hown (tw22 hw) e0 F_incident (g := (mkF m 142 #[vr a1, vi p2, vi p3, vr a4, vr a5, vr a6, vi i6, vi i7] [(.ref a1)])) rfl rfl (hb hby d1_142)
   refine dS st101 ?_
   show Aq T101 145 #[vr a1, vi p2, vi p3, vr a4, vr a5, vr a6, vi i6, vi i7] [(.ref b2)]
   refine aN X101 hx hby d1_145 rfl rfl ?_
   obtain ⟨T102, X102, e102, st102⟩ := gF X101 hx hZ hown (tw20 hw) e101 F_incidenceStart (g := (mkF m 146 #[vr a1, vi p2, vi p3, vr a4, vr a5, vr a6, vi i6, vi i7] [(.ref a1), (.ref b2)])) rfl rfl (hb hby d1_146)
   refine dS st102 ?_
   show Aq T102 149 #[vr a1, vi p2, vi p3, vr a4, vr a5, vr a6, vi i6, vi i7] [(.ref b1), (.ref b2)]
   refine aL X102 hx hby d1_149 rfl rfl ?_
   refine iL X102 hx hby d1_151 rfl ?_
   obtain ⟨jj, rfl⟩ : ∃ jj, ii = jj + 1 := ⟨ii - 1, by omega⟩
   have hjk : jj < k := by omega
   have hjn : jj ≤ nn := by omega
   have hs7 := own_idx hi (Nat.lt_of_le_of_lt hii hS)
   have hf7 := own_idx hi (Nat.lt_of_le_of_lt hii hF)
   obtain ⟨y1, hy1⟩ := own_get (xs := S) hs7.2.2
   have hvy1 : fv S (jj + 1) = y1.toInt := by rw [← own_fv hy1, hs7.2.1]
   have hry1 : 1 ≤ y1.toInt ∧ y1.toInt ≤ (vv : Int) + 1 := by have q := hs (jj + 1) (Nat.le_add_left _ _) hii; rw [hvy1] at q; exact ⟨q.1, Int.le_trans q.2 (Int.le_add_of_nonneg_right (by decide))⟩
   refine dS (ldI X102 hx hZ e102 A5 (j := i7) (x := (.int y1)) (own_nneg hs7.1) (by rw [List.getElem?_map, hy1]; rfl) (g := (mkF m 153 #[vr a1, vi p2, vi p3, vr a4, vr a5, vr a6, vi i6, vi i7] [(.int i7), (.ref a5), (.ref b1), (.ref b2)])) rfl rfl (hb hby d1_153)) ?_
   show Aq T102 154 #[vr a1, vi p2, vi p3, vr a4, vr a5, vr a6, vi i6, vi i7] [(.int y1), (.ref b1), (.ref b2)]
   refine dS (fun t k => Jvm.Free.XT.dup2 X102.here hx rfl (hb hby d1_154) rfl rfl rfl k) ?_
   show Aq T102 155 #[vr a1, vi p2, vi p3, vr a4, vr a5, vr a6, vi i6, vi i7] [(.int y1), (.ref b1), (.int y1), (.ref b1), (.ref b2)]
   have hiy := own_in hry1 hlen
   obtain ⟨y2, hy2⟩ := own_get (xs := ss) hiy.2.1
   have hgy : y2.toInt = cL (fv F) (fv S) nn (y1.toInt - 1) + cE (fv F) (fv S) (jj + 1) y1.toInt := hsv.at hy2 hiy.2.2.2 hiy.2.2.1
   have hb1 := net_a hii hvy1 hgy
   have hz1 := own_m1 hb1
   refine dS (ldI X102 hx hZ e102 Ab (j := y1) (x := (.int y2)) (own_nneg hiy.1) (by rw [List.getElem?_map, hy2]; rfl) (g := (mkF m 155 #[vr a1, vi p2, vi p3, vr a4, vr a5, vr a6, vi i6, vi i7] [(.int y1), (.ref b1), (.int y1), (.ref b1), (.ref b2)])) rfl rfl (hb hby d1_155)) ?_
   show Aq T102 156 #[vr a1, vi p2, vi p3, vr a4, vr a5, vr a6, vi i6, vi i7] [(.int y2), (.int y1), (.ref b1), (.ref b2)]
   refine iC X102 hx hby d1_156 (z := 1) rfl ?_
   refine iS X102 hx hby d1_157 ?_
   refine dS (fun t k => own_dupx2 X102.here hx rfl (hb hby d1_158) rfl k) ?_
   show Aq T102 159 #[vr a1, vi p2, vi p3, vr a4, vr a5, vr a6, vi i6, vi i7] [(.int (y2 - (1 : Int32))), (.int y1), (.ref b1), (.int (y2 - (1 : Int32))), (.ref b2)]
   obtain ⟨ss1, hss1⟩ : ∃ l, l = ss.set (y1).toNatClampNeg (y2 - (1 : Int32)) := ⟨_, rfl⟩
   have hlss1 := own_len hlen hss1
   have hsv1 := hsv.set hiy.2.2.1 hz1.1 hss1
   obtain ⟨T103, h103, X103, e103, W103, A103, st103⟩ := stoI X102 hx hZ e102 Ab (j := y1) (own_nneg hiy.1) (i := (y1).toNatClampNeg) rfl (by rw [List.length_map]; exact hiy.2.1) (g := (mkF m 159 #[vr a1, vi p2, vi p3, vr a4, vr a5, vr a6, vi i6, vi i7] [(.int (y2 - (1 : Int32))), (.int y1), (.ref b1), (.int (y2 - (1 : Int32))), (.ref b2)])) rfl rfl (hb hby d1_159)
   have f104 : Ax Z h103 b1 .int (ss1.map Value.int) := (by rw [hss1, List.map_set]; exact A103)
   refine dS st103 ?_
   show Aq T103 160 #[vr a1, vi p2, vi p3, vr a4, vr a5, vr a6, vi i6, vi i7] [(.int (y2 - (1 : Int32))), (.ref b2)]
   refine iL X103 hx hby d1_160 rfl ?_
   obtain ⟨ws1, hws1⟩ : ∃ l, l = ws.set ((y2 - (1 : Int32))).toNatClampNeg i7 := ⟨_, rfl⟩
   have hlws1 := own_len hwl hws1
   obtain ⟨T105, h105, X105, e105, W105, A105, st105⟩ := stoI X103 hx hZ e103 (Ai.other W103 ne_b1_b2.symm) (j := (y2 - (1 : Int32))) (own_nneg hz1.2.1) (i := ((y2 - (1 : Int32))).toNatClampNeg) rfl (by rw [List.length_map]; exact (own_in0 hz1.2.1 hz1.2.2 hwl).1) (g := (mkF m 162 #[vr a1, vi p2, vi p3, vr a4, vr a5, vr a6, vi i6, vi i7] [(.int i7), (.int (y2 - (1 : Int32))), (.ref b2)])) rfl rfl (hb hby d1_162)
   have f106 := (F_vertexCount.other W103 (Or.inl ne_a1_b1)).other W105 (Or.inl ne_a1_b2)
   have f107 := (F_roadCount.other W103 (Or.inl ne_a1_b1)).other W105 (Or.inl ne_a1_b2)
   have f108 := (F_firstEnd.other W103 (Or.inl ne_a1_b1)).other W105 (Or.inl ne_a1_b2)
   have f109 := (F_secondEnd.other W103 (Or.inl ne_a1_b1)).other W105 (Or.inl ne_a1_b2)
   have f110 := (F_incidenceStart.other W103 (Or.inl ne_a1_b1)).other W105 (Or.inl ne_a1_b2)
   have f111 := (F_incident.other W103 (Or.inl ne_a1_b1)).other W105 (Or.inl ne_a1_b2)
   have f112 : Ax Z h105 b2 .int (ws1.map Value.int) := (by rw [hws1, List.map_set]; exact A105)
   refine dS st105 ?_
   show Aq T105 163 #[vr a1, vi p2, vi p3, vr a4, vr a5, vr a6, vi i6, vi i7] []
   refine aN X105 hx hby d1_163 rfl rfl ?_
   obtain ⟨T113, X113, e113, st113⟩ := gF X105 hx hZ hown (tw22 hw) e105 f111 (g := (mkF m 164 #[vr a1, vi p2, vi p3, vr a4, vr a5, vr a6, vi i6, vi i7] [(.ref a1)])) rfl rfl (hb hby d1_164)
   refine dS st113 ?_
   show Aq T113 167 #[vr a1, vi p2, vi p3, vr a4, vr a5, vr a6, vi i6, vi i7] [(.ref b2)]
   refine aN X113 hx hby d1_167 rfl rfl ?_
   obtain ⟨T114, X114, e114, st114⟩ := gF X113 hx hZ hown (tw20 hw) e113 f110 (g := (mkF m 168 #[vr a1, vi p2, vi p3, vr a4, vr a5, vr a6, vi i6, vi i7] [(.ref a1), (.ref b2)])) rfl rfl (hb hby d1_168)
   refine dS st114 ?_
   show Aq T114 171 #[vr a1, vi p2, vi p3, vr a4, vr a5, vr a6, vi i6, vi i7] [(.ref b1), (.ref b2)]
   refine aN X114 hx hby d1_171 rfl rfl ?_
   refine iL X114 hx hby d1_172 rfl ?_
   obtain ⟨x1, hx1⟩ := own_get (xs := F) hf7.2.2
   have hvx1 : fv F (jj + 1) = x1.toInt := by rw [← own_fv hx1, hf7.2.1]
   have hrx1 : 1 ≤ x1.toInt ∧ x1.toInt ≤ (vv : Int) + 1 := by have q := hf (jj + 1) (Nat.le_add_left _ _) hii; rw [hvx1] at q; exact ⟨q.1, Int.le_trans q.2 (Int.le_add_of_nonneg_right (by decide))⟩
   refine dS (ldI X114 hx hZ e114 ((A4.other W103 ne_a4_b1).other W105 ne_a4_b2) (j := i7) (x := (.int x1)) (own_nneg hf7.1) (by rw [List.getElem?_map, hx1]; rfl) (g := (mkF m 174 #[vr a1, vi p2, vi p3, vr a4, vr a5, vr a6, vi i6, vi i7] [(.int i7), (.ref a4), (.ref b1), (.ref b2)])) rfl rfl (hb hby d1_174)) ?_
   show Aq T114 175 #[vr a1, vi p2, vi p3, vr a4, vr a5, vr a6, vi i6, vi i7] [(.int x1), (.ref b1), (.ref b2)]
   refine dS (fun t k => Jvm.Free.XT.dup2 X114.here hx rfl (hb hby d1_175) rfl rfl rfl k) ?_
   show Aq T114 176 #[vr a1, vi p2, vi p3, vr a4, vr a5, vr a6, vi i6, vi i7] [(.int x1), (.ref b1), (.int x1), (.ref b1), (.ref b2)]
   have hix := own_in hrx1 hlss1
   obtain ⟨x2, hx2⟩ := own_get (xs := ss1) hix.2.1
   have hgx : x2.toInt = if x1.toInt = y1.toInt then y2.toInt - 1 else cL (fv F) (fv S) nn (x1.toInt - 1) + cE (fv F) (fv S) (jj + 1) x1.toInt := hsv1.at hx2 hix.2.2.2 hix.2.2.1
   have hb2 := net_b hii hvx1 hvy1 hgy hgx
   have hz2 := own_m1 hb2.2
   refine dS (ldI X114 hx hZ e114 (f104.other W105 ne_b1_b2) (j := x1) (x := (.int x2)) (own_nneg hix.1) (by rw [List.getElem?_map, hx2]; rfl) (g := (mkF m 176 #[vr a1, vi p2, vi p3, vr a4, vr a5, vr a6, vi i6, vi i7] [(.int x1), (.ref b1), (.int x1), (.ref b1), (.ref b2)])) rfl rfl (hb hby d1_176)) ?_
   show Aq T114 177 #[vr a1, vi p2, vi p3, vr a4, vr a5, vr a6, vi i6, vi i7] [(.int x2), (.int x1), (.ref b1), (.ref b2)]
   refine iC X114 hx hby d1_177 (z := 1) rfl ?_
   refine iS X114 hx hby d1_178 ?_
   refine dS (fun t k => own_dupx2 X114.here hx rfl (hb hby d1_179) rfl k) ?_
   show Aq T114 180 #[vr a1, vi p2, vi p3, vr a4, vr a5, vr a6, vi i6, vi i7] [(.int (x2 - (1 : Int32))), (.int x1), (.ref b1), (.int (x2 - (1 : Int32))), (.ref b2)]
   obtain ⟨ss2, hss2⟩ : ∃ l, l = ss1.set (x1).toNatClampNeg (x2 - (1 : Int32)) := ⟨_, rfl⟩
   have hlss2 := own_len hlss1 hss2
   have hsv2 := hsv1.set hix.2.2.1 hz2.1 hss2
   obtain ⟨T115, h115, X115, e115, W115, A115, st115⟩ := stoI X114 hx hZ e114 (f104.other W105 ne_b1_b2) (j := x1) (own_nneg hix.1) (i := (x1).toNatClampNeg) rfl (by rw [List.length_map]; exact hix.2.1) (g := (mkF m 180 #[vr a1, vi p2, vi p3, vr a4, vr a5, vr a6, vi i6, vi i7] [(.int (x2 - (1 : Int32))), (.int x1), (.ref b1), (.int (x2 - (1 : Int32))), (.ref b2)])) rfl rfl (hb hby d1_180)
   have f116 := ((F_length.other W103 (Or.inl ne_a1_b1)).other W105 (Or.inl ne_a1_b2)).other W115 (Or.inl ne_a1_b1)
   have f117 : Ax Z h115 b1 .int (ss2.map Value.int) := (by rw [hss2, List.map_set]; exact A115)
   have K115 := ((K0.wr W103 (Or.inr sz_b1)).wr W105 (Or.inr sz_b2)).wr W115 (Or.inr sz_b1)
   refine dS st115 ?_
   show Aq T115 181 #[vr a1, vi p2, vi p3, vr a4, vr a5, vr a6, vi i6, vi i7] [(.int (x2 - (1 : Int32))), (.ref b2)]
   refine iL X115 hx hby d1_181 rfl ?_
   obtain ⟨ws2, hws2⟩ : ∃ l, l = ws1.set ((x2 - (1 : Int32))).toNatClampNeg i7 := ⟨_, rfl⟩
   have hlws2 := own_len hlws1 hws2
   obtain ⟨T118, h118, X118, e118, W118, A118, st118⟩ := stoI X115 hx hZ e115 (f112.other W115 ne_b1_b2.symm) (j := (x2 - (1 : Int32))) (own_nneg hz2.2.1) (i := ((x2 - (1 : Int32))).toNatClampNeg) rfl (by rw [List.length_map]; exact (own_in0 hz2.2.1 hz2.2.2 hlws1).1) (g := (mkF m 183 #[vr a1, vi p2, vi p3, vr a4, vr a5, vr a6, vi i6, vi i7] [(.int i7), (.int (x2 - (1 : Int32))), (.ref b2)])) rfl rfl (hb hby d1_183)
   have f119 := (((A4.other W103 ne_a4_b1).other W105 ne_a4_b2).other W115 ne_a4_b1).other W118 ne_a4_b2
   have f120 := (((A5.other W103 ne_a5_b1).other W105 ne_a5_b2).other W115 ne_a5_b1).other W118 ne_a5_b2
   have f121 : Ax Z h118 b2 .int (ws2.map Value.int) := (by rw [hws2, List.map_set]; exact A118)
   have N118 := Fr.snoc X118 (Fr.snoc X115 (Fr.snoc X105 (Fr.snoc X103 N0 gb) gi) gb) gi
   refine dS st118 ?_
   show Aq T118 184 #[vr a1, vi p2, vi p3, vr a4, vr a5, vr a6, vi i6, vi i7] []
   refine dS (fun t k => XS.iinc X118.here hx rfl (hb hby d1_184) rfl (l' := #[vr a1, vi p2, vi p3, vr a4, vr a5, vr a6, vi i6, vi (i7 + (-1 : Int32))]) rfl k) ?_
   show Aq T118 187 #[vr a1, vi p2, vi p3, vr a4, vr a5, vr a6, vi i6, vi (i7 + (-1 : Int32))] []
   refine gO X118 hx hby d1_187 (pc' := 135) (H := ?_)
   have hsv3 : SV ss2 (fun j => cL (fv F) (fv S) nn (j - 1) + cE (fv F) (fv S) jj j) := hsv2.same (fun j hj => net_c hvx1 hvy1 hgy hb2.1 j)
   exact ih T118 _ h118 ss2 ws2 (i7 + (-1 : Int32)) jj X118 N118 (lw (lw (lw (lw Z0 W103) W105) W115) W118) e118 (K115.wr W118 (Or.inr sz_b2)) ((((E1.wr W103).wr W105).wr W115).wr W118) ((f106.other W115 (Or.inl ne_a1_b1)).other W118 (Or.inl ne_a1_b2)) ((f107.other W115 (Or.inl ne_a1_b1)).other W118 (Or.inl ne_a1_b2)) ((f108.other W115 (Or.inl ne_a1_b1)).other W118 (Or.inl ne_a1_b2)) ((f109.other W115 (Or.inl ne_a1_b1)).other W118 (Or.inl ne_a1_b2)) (f116.other W118 (Or.inl ne_a1_b2)) ((f110.other W115 (Or.inl ne_a1_b1)).other W118 (Or.inl ne_a1_b2)) ((f111.other W115 (Or.inl ne_a1_b1)).other W118 (Or.inl ne_a1_b2)) f119 f120 (f117.other W118 ne_b1_b2) f121 hlss2 hlws2 hjk (own_dec hi) hjn hsv3
theorem own_rep {Z : State} {h : Heap} {a : Addr} {n : Nat} (A : Ax Z h a .int (List.replicate n (.int 0))) : Ax Z h a .int ((List.replicate n (0 : Int32)).map Value.int) := by rw [List.map_replicate]; exact A
theorem d1_88 : dq cd45 88 (.iload 7) 2 := by decide +kernel
theorem d1_90 : dq cd45 90 (.iload_n 1) 1 := by decide +kernel
theorem d1_91 : dq cd45 91 (.iconst 1) 1 := by decide +kernel
theorem d1_92 : dq cd45 92 .iadd 1 := by decide +kernel
theorem d1_93 : dq cd45 93 (.if_icmp .gt 30) 3 := by decide +kernel
theorem d1_96 : dq cd45 96 (.iload 6) 2 := by decide +kernel
theorem d1_98 : dq cd45 98 (.aload_n 0) 1 := by decide +kernel
theorem d1_99 : dq cd45 99 (.getfield 26) 3 := by decide +kernel
theorem d1_102 : dq cd45 102 (.iload 7) 2 := by decide +kernel
theorem d1_104 : dq cd45 104 .iaload 1 := by decide +kernel
theorem d1_105 : dq cd45 105 .iadd 1 := by decide +kernel
theorem d1_106 : dq cd45 106 (.istore 6) 2 := by decide +kernel
theorem d1_108 : dq cd45 108 (.aload_n 0) 1 := by decide +kernel
theorem d1_109 : dq cd45 109 (.getfield 26) 3 := by decide +kernel
theorem d1_112 : dq cd45 112 (.iload 7) 2 := by decide +kernel
theorem d1_114 : dq cd45 114 (.iload 6) 2 := by decide +kernel
theorem d1_116 : dq cd45 116 .iastore 1 := by decide +kernel
theorem d1_117 : dq cd45 117 (.iinc 7 1) 3 := by decide +kernel
theorem d1_120 : dq cd45 120 (.goto (-32)) 3 := by decide +kernel
theorem d1_123 : dq cd45 123 (.aload_n 0) 1 := by decide +kernel
theorem d1_124 : dq cd45 124 (.iconst 2) 1 := by decide +kernel
theorem d1_125 : dq cd45 125 (.iload_n 2) 1 := by decide +kernel
theorem d1_126 : dq cd45 126 .imul 1 := by decide +kernel
theorem d1_127 : dq cd45 127 (.newarray .int) 2 := by decide +kernel
theorem d1_129 : dq cd45 129 (.putfield 29) 3 := by decide +kernel
theorem d1_132 : dq cd45 132 (.iload_n 2) 1 := by decide +kernel
theorem d1_133 : dq cd45 133 (.istore 7) 2 := by decide +kernel
theorem lp88 {p : Program} {l : Launch} {e : Env} {s : State} {m : MethodId} {args : Array Value} {below : List Frame} {meth : Method} {c : Code} {Z : State} {a0 : Array Value} {n0 : Nat} {hO : Heap} (a1 : Addr) (p2 p3 : Int32) (a4 a5 a6 : Addr) (F S : List Int32) (nn vv : Nat) (b1 : Addr)
  (hx : p.tables.exec = Jvm.exec) (hZ : Z.Warmed39 s.vm) (hw : HH a0 Z) (hby : c.code = prog_20_method_1_code) (hml : c.maxLocals = 8) (hown : s.vm.findClass "com/example/dendrocover/dendrocover/Network" = some m.cls) (hlk : meth.locks = false) (hret : meth.sig.returnType = (none : Option FieldType)) (hnm : meth.name = "<init>") (g1 : n0 ≤ a1) (hv : p2.toInt = vv) (hv2 : vv ≤ 2) (hn : p3.toInt = nn) (hn2 : nn ≤ 2) (hF : nn < F.length) (hS : nn < S.length) (hf : ∀ i, 1 ≤ i → i ≤ nn → 1 ≤ fv F i ∧ fv F i ≤ (vv : Int)) (hs : ∀ i, 1 ≤ i → i ≤ nn → 1 ≤ fv S i ∧ fv S i ≤ (vv : Int)) (gb : n0 ≤ b1) (sz_b1 : hO.size ≤ b1) (ne_a1_a4 : a1 ≠ a4) (ne_a1_a5 : a1 ≠ a5) (ne_a1_b1 : a1 ≠ b1) (ne_a4_b1 : a4 ≠ b1) (ne_a5_b1 : a5 ≠ b1) :
  ∀ (k : Nat) (T : State) (locs : List Loc) (h0 : Heap) (ss : List Int32) (i6 : Int32) (i7 : Int32) (tt : Nat) (X0 : Stand p l e ({ frames := 1, cells := 2, slots := 8, locals := 12 } : Room) s m args below meth c T locs 1 4) (N0 : Fr n0 locs) (Z0 : n0 ≤ h0.size) (e0 : T.heap = h0) (K0 : Keep hO h0 [a1]) (E1 : Fl20 Z h0 a1) (F_vertexCount : Fl11 Z h0 a1 (.int p2)) (F_roadCount : Fl12 Z h0 a1 (.int p3)) (F_firstEnd : Fl21 Z h0 a1 (.ref a4)) (F_secondEnd : Fl22 Z h0 a1 (.ref a5)) (F_length : Fl23 Z h0 a1 (.ref a6)) (F_incidenceStart : Fl24 Z h0 a1 (.ref b1)) (F_incident : Fl25 Z h0 a1 .null) (A4 : Ax Z h0 a4 .int (F.map Value.int)) (A5 : Ax Z h0 a5 .int (S.map Value.int)) (Ab : Ax Z h0 b1 .int (ss.map Value.int)) (hlen : ss.length = vv + 2) (hk : vv + 2 - tt < k) (hi : i7.toInt = (tt : Int)) (ht1 : 1 ≤ tt) (ht2 : tt ≤ vv + 2) (hsum : i6.toInt = cL (fv F) (fv S) nn ((tt : Int) - 1)) (hsv : SV ss (fun j => if j < (tt : Int) then cL (fv F) (fv S) nn j else cE (fv F) (fv S) nn j)), Done p e below s (fun v h L => v = none ∧ Fr n0 L ∧ Keep hO h [a1] ∧ Fl20 Z h a1 ∧ Fl11 Z h a1 (.int p2) ∧ Fl12 Z h a1 (.int p3) ∧ Fl21 Z h a1 (.ref a4) ∧ Fl22 Z h a1 (.ref a5) ∧ Fl23 Z h a1 (.ref a6)) ({ frames := 1, cells := 2, slots := 8, locals := 12 } : Room).cells ({ frames := 1, cells := 2, slots := 8, locals := 12 } : Room).slots (T.setTop (mkF m 88 #[vr a1, vi p2, vi p3, vr a4, vr a5, vr a6, vi i6, vi i7] [])) := by
 intro k
 induction k with
 | zero => intro T locs h0 ss i6 i7 tt X0 N0 Z0 e0 K0 E1 F_vertexCount F_roadCount F_firstEnd F_secondEnd F_length F_incidenceStart F_incident A4 A5 Ab hlen hk hi ht1 ht2 hsum hsv; exact absurd hk (Nat.not_lt_zero _)
 | succ k ih =>
  intro T locs h0 ss i6 i7 tt X0 N0 Z0 e0 K0 E1 F_vertexCount F_roadCount F_firstEnd F_secondEnd F_length F_incidenceStart F_incident A4 A5 Ab hlen hk hi ht1 ht2 hsum hsv
  show Aq T 88 #[vr a1, vi p2, vi p3, vr a4, vr a5, vr a6, vi i6, vi i7] []
  have hp1 : (p2 + (1 : Int32)).toInt = vv + 1 := by rw [own_plus own_one (by omega) (by omega), hv]
  refine iL X0 hx hby d1_88 rfl ?_
  refine iN X0 hx hby d1_90 rfl ?_
  refine iC X0 hx hby d1_91 (z := 1) rfl ?_
  refine iA X0 hx hby d1_92 ?_
  by_cases c1 : (p2 + (1 : Int32)) < i7
  ·refine cY X0 hx hby d1_93 (pc' := 123) (tlt c1).2.2.1 (H := ?_)
   refine aN X0 hx hby d1_123 rfl rfl ?_
   refine iC X0 hx hby d1_124 (z := 2) rfl ?_
   refine iN X0 hx hby d1_125 rfl ?_
   refine dS (fun t k => XS.imul X0.here hx rfl (hb hby d1_126) rfl k) ?_
   show Aq T 127 #[vr a1, vi p2, vi p3, vr a4, vr a5, vr a6, vi i6, vi i7] [(.int ((2 : Int32) * p3)), (.ref a1)]
   have hgt : (vv : Int) + 1 < i7.toInt := by have := Int32.lt_iff_toInt_lt.mp c1; omega
   obtain rfl : tt = vv + 2 := by omega
   have hmul : ((2 : Int32) * p3).toInt = 2 * nn := by have a := c_imul (2 : Int32) p3; have r := rng32 ((2 : Int32) * p3); rw [hn, show (2 : Int32).toInt = 2 from rfl] at a; omega
   have hmc := own_clamp (x := (2 : Int32) * p3) (by omega)
   obtain ⟨T101, h101, k101, X101, e101, E101, A101, B101, st101⟩ := newPE X0 hx hZ (hw _ (List.mem_of_getElem? (i := 0) rfl)) e0 (g := (mkF m 127 #[vr a1, vi p2, vi p3, vr a4, vr a5, vr a6, vi i6, vi i7] [(.int ((2 : Int32) * p3)), (.ref a1)])) rfl (hb hby d1_127) rfl (own_nneg (by omega)) (cap := 4) (by omega) (by decide) (by decide) (by decide) (ad := "[I") (by decide)
   obtain ⟨b101, gq101⟩ : ∃ z, z = h0.size := ⟨_, rfl⟩
   rw [← gq101] at A101 B101 st101
   have sz_b101 := lb K0.1 gq101
   have f102 : Ax Z h101 b101 .int (List.replicate (2 * nn) (.int 0)) := Ax.new (ty := .int) (i := (2 * nn)) A101 (by omega)
   refine dS st101 ?_
   show Aq T101 129 #[vr a1, vi p2, vi p3, vr a4, vr a5, vr a6, vi i6, vi i7] [(.ref b101), (.ref a1)]
   obtain ⟨T103, h103, X103, e103, W103, st103⟩ := putF X101 hx hZ hown (host := "") (Or.inl (tw22 hw)) Via.refl e101 (F_incident.ext E101) (E1.ext E101) (Or.inr ⟨(tw23 hw), rfl, hnm⟩) (tw2 hw) (ty := (.array .int)) (by decide) rfl rfl (g := (mkF m 129 #[vr a1, vi p2, vi p3, vr a4, vr a5, vr a6, vi i6, vi i7] [(.ref b101), (.ref a1)])) rfl rfl (hb hby d1_129)
   have f104 := (F_vertexCount.ext E101).other W103 (Or.inr (sq39 hw))
   have f105 := (F_roadCount.ext E101).other W103 (Or.inr (sq40 hw))
   have f106 := (F_firstEnd.ext E101).other W103 (Or.inr (sq41 hw))
   have f107 := (F_secondEnd.ext E101).other W103 (Or.inr (sq42 hw))
   have f108 := (F_length.ext E101).other W103 (Or.inr (sq43 hw))
   have f109 := (F_incidenceStart.ext E101).other W103 (Or.inr (sq44 hw))
   have f110 := (F_incident.ext E101).same W103
   have ne111 := nl E1.lt gq101
   refine dS st103 ?_
   show Aq T103 132 #[vr a1, vi p2, vi p3, vr a4, vr a5, vr a6, vi i6, vi i7] []
   refine iN X103 hx hby d1_132 rfl ?_
   refine sL X103 hx hby d1_133 (l' := #[vr a1, vi p2, vi p3, vr a4, vr a5, vr a6, vi i6, vi p3]) rfl ?_
   have hsv3 : SV ss (fun j => cL (fv F) (fv S) nn (j - 1) + cE (fv F) (fv S) nn j) := fun j y hy hj => by
    have q := hsv j y hy hj
    dsimp only at q ⊢
    have hjl : j < ss.length := (List.getElem?_eq_some_iff.mp hy).1
    rw [if_pos (by omega)] at q
    rw [q]; exact cL_step (fv F) (fv S) nn (j : Int)
   have ne112 := nl A4.lt gq101
   have ne113 := nl A5.lt gq101
   have ne114 := nl Ab.lt gq101
   exact lp135 a1 p2 p3 a4 a5 a6 F S nn vv b1 b101 i6 hx hZ hw hby hml hown hlk hret hnm g1 hv hv2 hn hn2 hF hS hf hs gb (lb Z0 gq101) sz_b1 sz_b101 ne_a1_a4 ne_a1_a5 ne_a1_b1 ne_a4_b1 ne_a5_b1 ne111 ne112 ne113 ne114 (nn + 1)  T103 _ h103 ss (List.replicate (2 * nn) (0 : Int32)) p3 nn X103 (Fr.snoc X103 N0 g1) (lw (lq Z0 E101.1) W103) e103 ((K0.ext E101).wr W103 (Or.inl me0)) ((E1.ext E101).wr W103) f104 f105 f106 f107 f108 f109 f110 ((A4.ext E101).other W103 ne_a1_a4.symm) ((A5.ext E101).other W103 ne_a1_a5.symm) ((Ab.ext E101).other W103 ne_a1_b1.symm) (own_rep (f102.other W103 ne111.symm)) hlen (List.length_replicate) (Nat.lt_succ_self _) hn (Nat.le_refl _) hsv3
  ·refine cF X0 hx hby d1_93 (flt c1).2.2.1 ?_
   have hle : i7.toInt ≤ vv + 1 := by have := Int.not_lt.mp (fun q => c1 (Int32.lt_iff_toInt_lt.mpr q)); omega
   refine iL X0 hx hby d1_96 rfl ?_
   refine aN X0 hx hby d1_98 rfl rfl ?_
   obtain ⟨T115, X115, e115, st115⟩ := gF X0 hx hZ hown (tw20 hw) e0 F_incidenceStart (g := (mkF m 99 #[vr a1, vi p2, vi p3, vr a4, vr a5, vr a6, vi i6, vi i7] [(.ref a1), (.int i6)])) rfl rfl (hb hby d1_99)
   refine dS st115 ?_
   show Aq T115 102 #[vr a1, vi p2, vi p3, vr a4, vr a5, vr a6, vi i6, vi i7] [(.ref b1), (.int i6)]
   refine iL X115 hx hby d1_102 rfl ?_
   have hiy := own_in (x := i7) ⟨by omega, hle⟩ hlen
   obtain ⟨y2, hy2⟩ := own_get (xs := ss) hiy.2.1
   have hgy : y2.toInt = cE (fv F) (fv S) nn (tt : Int) := by have q := hsv.at hy2 hiy.2.2.2 hiy.2.2.1; (try dsimp only at q); rw [hi, if_neg (Int.lt_irrefl _)] at q; exact q
   have hz := net_g hsum hgy (by omega)
   refine dS (ldI X115 hx hZ e115 Ab (j := i7) (x := (.int y2)) (own_nneg hiy.1) (by rw [List.getElem?_map, hy2]; rfl) (g := (mkF m 104 #[vr a1, vi p2, vi p3, vr a4, vr a5, vr a6, vi i6, vi i7] [(.int i7), (.ref b1), (.int i6)])) rfl rfl (hb hby d1_104)) ?_
   show Aq T115 105 #[vr a1, vi p2, vi p3, vr a4, vr a5, vr a6, vi i6, vi i7] [(.int y2), (.int i6)]
   refine iA X115 hx hby d1_105 ?_
   refine sL X115 hx hby d1_106 (l' := #[vr a1, vi p2, vi p3, vr a4, vr a5, vr a6, vi (i6 + y2), vi i7]) rfl ?_
   refine aN X115 hx hby d1_108 rfl rfl ?_
   obtain ⟨T116, X116, e116, st116⟩ := gF X115 hx hZ hown (tw20 hw) e115 F_incidenceStart (g := (mkF m 109 #[vr a1, vi p2, vi p3, vr a4, vr a5, vr a6, vi (i6 + y2), vi i7] [(.ref a1)])) rfl rfl (hb hby d1_109)
   refine dS st116 ?_
   show Aq T116 112 #[vr a1, vi p2, vi p3, vr a4, vr a5, vr a6, vi (i6 + y2), vi i7] [(.ref b1)]
   refine iL X116 hx hby d1_112 rfl ?_
   refine iL X116 hx hby d1_114 rfl ?_
   obtain ⟨ss1, hss1⟩ : ∃ l, l = ss.set (i7).toNatClampNeg (i6 + y2) := ⟨_, rfl⟩
   have hlss1 := own_len hlen hss1
   have hsv1 := hsv.set (hiy.2.2.1.trans hi) hz hss1
   have hi7 := own_inc hi (by omega)
   have ht3 : vv + 2 - (tt + 1) < k := by omega
   have ht4 : tt + 1 ≤ vv + 2 := by omega
   obtain ⟨T117, h117, X117, e117, W117, A117, st117⟩ := stoI X116 hx hZ e116 Ab (j := i7) (own_nneg hiy.1) (i := (i7).toNatClampNeg) rfl (by rw [List.length_map]; exact hiy.2.1) (g := (mkF m 116 #[vr a1, vi p2, vi p3, vr a4, vr a5, vr a6, vi (i6 + y2), vi i7] [(.int (i6 + y2)), (.int i7), (.ref b1)])) rfl rfl (hb hby d1_116)
   have f118 : Ax Z h117 b1 .int (ss1.map Value.int) := (by rw [hss1, List.map_set]; exact A117)
   refine dS st117 ?_
   show Aq T117 117 #[vr a1, vi p2, vi p3, vr a4, vr a5, vr a6, vi (i6 + y2), vi i7] []
   refine dS (fun t k => XS.iinc X117.here hx rfl (hb hby d1_117) rfl (l' := #[vr a1, vi p2, vi p3, vr a4, vr a5, vr a6, vi (i6 + y2), vi (i7 + (1 : Int32))]) rfl k) ?_
   show Aq T117 120 #[vr a1, vi p2, vi p3, vr a4, vr a5, vr a6, vi (i6 + y2), vi (i7 + (1 : Int32))] []
   refine gO X117 hx hby d1_120 (pc' := 88) (H := ?_)
   have hsv2 := hsv1.same (fun j hj => net_f tt j)
   exact ih T117 _ h117 ss1 (i6 + y2) (i7 + (1 : Int32)) (tt + 1) X117 (Fr.snoc X117 N0 gb) (lw Z0 W117) e117 (K0.wr W117 (Or.inr sz_b1)) (E1.wr W117) (F_vertexCount.other W117 (Or.inl ne_a1_b1)) (F_roadCount.other W117 (Or.inl ne_a1_b1)) (F_firstEnd.other W117 (Or.inl ne_a1_b1)) (F_secondEnd.other W117 (Or.inl ne_a1_b1)) (F_length.other W117 (Or.inl ne_a1_b1)) (F_incidenceStart.other W117 (Or.inl ne_a1_b1)) (F_incident.other W117 (Or.inl ne_a1_b1)) (A4.other W117 ne_a4_b1) (A5.other W117 ne_a5_b1) f118 hlss1 ht3 hi7 (Nat.le_add_left _ _) ht4 (by rw [hz]; congr 1; exact own_cast tt) hsv2
theorem d1_43 : dq cd45 43 (.iload 6) 2 := by decide +kernel
theorem d1_45 : dq cd45 45 (.iload_n 2) 1 := by decide +kernel
theorem d1_46 : dq cd45 46 (.if_icmp .gt 36) 3 := by decide +kernel
theorem d1_49 : dq cd45 49 (.aload_n 0) 1 := by decide +kernel
theorem d1_50 : dq cd45 50 (.getfield 26) 3 := by decide +kernel
theorem d1_53 : dq cd45 53 (.aload_n 3) 1 := by decide +kernel
theorem d1_54 : dq cd45 54 (.iload 6) 2 := by decide +kernel
theorem d1_56 : dq cd45 56 .iaload 1 := by decide +kernel
theorem d1_57 : dq cd45 57 .dup2 1 := by decide +kernel
theorem d1_58 : dq cd45 58 .iaload 1 := by decide +kernel
theorem d1_59 : dq cd45 59 (.iconst 1) 1 := by decide +kernel
theorem d1_60 : dq cd45 60 .iadd 1 := by decide +kernel
theorem d1_61 : dq cd45 61 .iastore 1 := by decide +kernel
theorem d1_62 : dq cd45 62 (.aload_n 0) 1 := by decide +kernel
theorem d1_63 : dq cd45 63 (.getfield 26) 3 := by decide +kernel
theorem d1_66 : dq cd45 66 (.aload 4) 2 := by decide +kernel
theorem d1_68 : dq cd45 68 (.iload 6) 2 := by decide +kernel
theorem d1_70 : dq cd45 70 .iaload 1 := by decide +kernel
theorem d1_71 : dq cd45 71 .dup2 1 := by decide +kernel
theorem d1_72 : dq cd45 72 .iaload 1 := by decide +kernel
theorem d1_73 : dq cd45 73 (.iconst 1) 1 := by decide +kernel
theorem d1_74 : dq cd45 74 .iadd 1 := by decide +kernel
theorem d1_75 : dq cd45 75 .iastore 1 := by decide +kernel
theorem d1_76 : dq cd45 76 (.iinc 6 1) 3 := by decide +kernel
theorem d1_79 : dq cd45 79 (.goto (-36)) 3 := by decide +kernel
theorem d1_82 : dq cd45 82 (.iconst 0) 1 := by decide +kernel
theorem d1_83 : dq cd45 83 (.istore 6) 2 := by decide +kernel
theorem d1_85 : dq cd45 85 (.iconst 1) 1 := by decide +kernel
theorem d1_86 : dq cd45 86 (.istore 7) 2 := by decide +kernel
theorem lp43 {p : Program} {l : Launch} {e : Env} {s : State} {m : MethodId} {args : Array Value} {below : List Frame} {meth : Method} {c : Code} {Z : State} {a0 : Array Value} {n0 : Nat} {hO : Heap} (a1 : Addr) (p2 p3 : Int32) (a4 a5 a6 : Addr) (F S : List Int32) (nn vv : Nat) (b1 : Addr)
  (hx : p.tables.exec = Jvm.exec) (hZ : Z.Warmed39 s.vm) (hw : HH a0 Z) (hby : c.code = prog_20_method_1_code) (hml : c.maxLocals = 8) (hown : s.vm.findClass "com/example/dendrocover/dendrocover/Network" = some m.cls) (hlk : meth.locks = false) (hret : meth.sig.returnType = (none : Option FieldType)) (hnm : meth.name = "<init>") (g1 : n0 ≤ a1) (hv : p2.toInt = vv) (hv2 : vv ≤ 2) (hn : p3.toInt = nn) (hn2 : nn ≤ 2) (hF : nn < F.length) (hS : nn < S.length) (hf : ∀ i, 1 ≤ i → i ≤ nn → 1 ≤ fv F i ∧ fv F i ≤ (vv : Int)) (hs : ∀ i, 1 ≤ i → i ≤ nn → 1 ≤ fv S i ∧ fv S i ≤ (vv : Int)) (gb : n0 ≤ b1) (sz_b1 : hO.size ≤ b1) (ne_a1_a4 : a1 ≠ a4) (ne_a1_a5 : a1 ≠ a5) (ne_a1_b1 : a1 ≠ b1) (ne_a4_b1 : a4 ≠ b1) (ne_a5_b1 : a5 ≠ b1) :
  ∀ (k : Nat) (T : State) (locs : List Loc) (h0 : Heap) (ss : List Int32) (i6 : Int32) (ii : Nat) (X0 : Stand p l e ({ frames := 1, cells := 2, slots := 8, locals := 12 } : Room) s m args below meth c T locs 1 4) (N0 : Fr n0 locs) (Z0 : n0 ≤ h0.size) (e0 : T.heap = h0) (K0 : Keep hO h0 [a1]) (E1 : Fl20 Z h0 a1) (F_vertexCount : Fl11 Z h0 a1 (.int p2)) (F_roadCount : Fl12 Z h0 a1 (.int p3)) (F_firstEnd : Fl21 Z h0 a1 (.ref a4)) (F_secondEnd : Fl22 Z h0 a1 (.ref a5)) (F_length : Fl23 Z h0 a1 (.ref a6)) (F_incidenceStart : Fl24 Z h0 a1 (.ref b1)) (F_incident : Fl25 Z h0 a1 .null) (A4 : Ax Z h0 a4 .int (F.map Value.int)) (A5 : Ax Z h0 a5 .int (S.map Value.int)) (Ab : Ax Z h0 b1 .int (ss.map Value.int)) (hlen : ss.length = vv + 2) (hk : nn - ii < k) (hi : i6.toInt = (ii : Int) + 1) (hii : ii ≤ nn) (hsv : SV ss (fun j => cE (fv F) (fv S) ii j)), Done p e below s (fun v h L => v = none ∧ Fr n0 L ∧ Keep hO h [a1] ∧ Fl20 Z h a1 ∧ Fl11 Z h a1 (.int p2) ∧ Fl12 Z h a1 (.int p3) ∧ Fl21 Z h a1 (.ref a4) ∧ Fl22 Z h a1 (.ref a5) ∧ Fl23 Z h a1 (.ref a6)) ({ frames := 1, cells := 2, slots := 8, locals := 12 } : Room).cells ({ frames := 1, cells := 2, slots := 8, locals := 12 } : Room).slots (T.setTop (mkF m 43 #[vr a1, vi p2, vi p3, vr a4, vr a5, vr a6, vi i6, vu] [])) := by
 intro k
 induction k with
 | zero => intro T locs h0 ss i6 ii X0 N0 Z0 e0 K0 E1 F_vertexCount F_roadCount F_firstEnd F_secondEnd F_length F_incidenceStart F_incident A4 A5 Ab hlen hk hi hii hsv; exact absurd hk (Nat.not_lt_zero _)
 | succ k ih =>
  intro T locs h0 ss i6 ii X0 N0 Z0 e0 K0 E1 F_vertexCount F_roadCount F_firstEnd F_secondEnd F_length F_incidenceStart F_incident A4 A5 Ab hlen hk hi hii hsv
  show Aq T 43 #[vr a1, vi p2, vi p3, vr a4, vr a5, vr a6, vi i6, vu] []
  refine iL X0 hx hby d1_43 rfl ?_
  refine iN X0 hx hby d1_45 rfl ?_
  by_cases c1 : p3 < i6
  ·refine cY X0 hx hby d1_46 (pc' := 82) (tlt c1).2.2.1 (H := ?_)
   refine iC X0 hx hby d1_82 (z := 0) rfl ?_
   refine sL X0 hx hby d1_83 (l' := #[vr a1, vi p2, vi p3, vr a4, vr a5, vr a6, vi 0, vu]) rfl ?_
   refine iC X0 hx hby d1_85 (z := 1) rfl ?_
   refine sL X0 hx hby d1_86 (l' := #[vr a1, vi p2, vi p3, vr a4, vr a5, vr a6, vi 0, vi 1]) rfl ?_
   have hgt : (nn : Int) < i6.toInt := by have := Int32.lt_iff_toInt_lt.mp c1; omega
   obtain rfl : ii = nn := by omega
   have hsv2 : SV ss (fun j => if j < ((1 : Nat) : Int) then cL (fv F) (fv S) ii j else cE (fv F) (fv S) ii j) := hsv.same (fun j hj => by rw [if_neg (by omega)])
   exact lp88 a1 p2 p3 a4 a5 a6 F S ii vv b1 hx hZ hw hby hml hown hlk hret hnm g1 hv hv2 hn hn2 hF hS hf hs gb sz_b1 ne_a1_a4 ne_a1_a5 ne_a1_b1 ne_a4_b1 ne_a5_b1 (vv + 2)  T _ h0 ss (0 : Int32) (1 : Int32) 1 X0 N0 Z0 e0 K0 E1 F_vertexCount F_roadCount F_firstEnd F_secondEnd F_length F_incidenceStart F_incident A4 A5 Ab hlen (by omega) rfl (Nat.le_refl _) (by omega) (by rw [show ((1 : Nat) : Int) - 1 = 0 from rfl, cL_zero _ _ _ _ hf hs]; rfl) hsv2
  ·refine cF X0 hx hby d1_46 (flt c1).2.2.1 ?_
   have hle : i6.toInt ≤ nn := by have := Int.not_lt.mp (fun q => c1 (Int32.lt_iff_toInt_lt.mpr q)); omega
   refine aN X0 hx hby d1_49 rfl rfl ?_
   obtain ⟨T101, X101, e101, st101⟩ := gF X0 hx hZ hown (tw20 hw) e0 F_incidenceStart (g := (mkF m 50 #[vr a1, vi p2, vi p3, vr a4, vr a5, vr a6, vi i6, vu] [(.ref a1)])) rfl rfl (hb hby d1_50)
   refine dS st101 ?_
   show Aq T101 53 #[vr a1, vi p2, vi p3, vr a4, vr a5, vr a6, vi i6, vu] [(.ref b1)]
   refine aN X101 hx hby d1_53 rfl rfl ?_
   refine iL X101 hx hby d1_54 rfl ?_
   have hi1 : ii + 1 ≤ nn := by omega
   have hi' : i6.toInt = ((ii + 1 : Nat) : Int) := by omega
   have hs7 := own_idx hi' (Nat.lt_of_le_of_lt hi1 hS)
   have hf7 := own_idx hi' (Nat.lt_of_le_of_lt hi1 hF)
   have hkk : nn - (ii + 1) < k := by omega
   have hi7 := own_inc hi (by omega)
   obtain ⟨x1, hx1⟩ := own_get (xs := F) hf7.2.2
   have hvx1 : fv F (ii + 1) = x1.toInt := by rw [← own_fv hx1, hf7.2.1]
   have hrx1 : 1 ≤ x1.toInt ∧ x1.toInt ≤ (vv : Int) + 1 := by have q := hf (ii + 1) (Nat.le_add_left _ _) hi1; rw [hvx1] at q; exact ⟨q.1, Int.le_trans q.2 (Int.le_add_of_nonneg_right (by decide))⟩
   refine dS (ldI X101 hx hZ e101 A4 (j := i6) (x := (.int x1)) (own_nneg hf7.1) (by rw [List.getElem?_map, hx1]; rfl) (g := (mkF m 56 #[vr a1, vi p2, vi p3, vr a4, vr a5, vr a6, vi i6, vu] [(.int i6), (.ref a4), (.ref b1)])) rfl rfl (hb hby d1_56)) ?_
   show Aq T101 57 #[vr a1, vi p2, vi p3, vr a4, vr a5, vr a6, vi i6, vu] [(.int x1), (.ref b1)]
   refine dS (fun t k => Jvm.Free.XT.dup2 X101.here hx rfl (hb hby d1_57) rfl rfl rfl k) ?_
   show Aq T101 58 #[vr a1, vi p2, vi p3, vr a4, vr a5, vr a6, vi i6, vu] [(.int x1), (.ref b1), (.int x1), (.ref b1)]
   have hix := own_in hrx1 hlen
   obtain ⟨x2, hx2⟩ := own_get (xs := ss) hix.2.1
   have hgx : x2.toInt = cE (fv F) (fv S) ii x1.toInt := hsv.at hx2 hix.2.2.2 hix.2.2.1
   have hz1 := own_p1 (x := x2) (b := 2 * ii) (by rw [hgx]; exact cE_rng _ _ _ _) (by omega)
   refine dS (ldI X101 hx hZ e101 Ab (j := x1) (x := (.int x2)) (own_nneg hix.1) (by rw [List.getElem?_map, hx2]; rfl) (g := (mkF m 58 #[vr a1, vi p2, vi p3, vr a4, vr a5, vr a6, vi i6, vu] [(.int x1), (.ref b1), (.int x1), (.ref b1)])) rfl rfl (hb hby d1_58)) ?_
   show Aq T101 59 #[vr a1, vi p2, vi p3, vr a4, vr a5, vr a6, vi i6, vu] [(.int x2), (.int x1), (.ref b1)]
   refine iC X101 hx hby d1_59 (z := 1) rfl ?_
   refine iA X101 hx hby d1_60 ?_
   obtain ⟨ss1, hss1⟩ : ∃ l, l = ss.set (x1).toNatClampNeg (x2 + (1 : Int32)) := ⟨_, rfl⟩
   have hlss1 := own_len hlen hss1
   have hsv1 := hsv.set hix.2.2.1 hz1 hss1
   obtain ⟨T102, h102, X102, e102, W102, A102, st102⟩ := stoI X101 hx hZ e101 Ab (j := x1) (own_nneg hix.1) (i := (x1).toNatClampNeg) rfl (by rw [List.length_map]; exact hix.2.1) (g := (mkF m 61 #[vr a1, vi p2, vi p3, vr a4, vr a5, vr a6, vi i6, vu] [(.int (x2 + (1 : Int32))), (.int x1), (.ref b1)])) rfl rfl (hb hby d1_61)
   have f103 : Ax Z h102 b1 .int (ss1.map Value.int) := (by rw [hss1, List.map_set]; exact A102)
   refine dS st102 ?_
   show Aq T102 62 #[vr a1, vi p2, vi p3, vr a4, vr a5, vr a6, vi i6, vu] []
   refine aN X102 hx hby d1_62 rfl rfl ?_
   obtain ⟨T104, X104, e104, st104⟩ := gF X102 hx hZ hown (tw20 hw) e102 (F_incidenceStart.other W102 (Or.inl ne_a1_b1)) (g := (mkF m 63 #[vr a1, vi p2, vi p3, vr a4, vr a5, vr a6, vi i6, vu] [(.ref a1)])) rfl rfl (hb hby d1_63)
   refine dS st104 ?_
   show Aq T104 66 #[vr a1, vi p2, vi p3, vr a4, vr a5, vr a6, vi i6, vu] [(.ref b1)]
   refine aL X104 hx hby d1_66 rfl rfl ?_
   refine iL X104 hx hby d1_68 rfl ?_
   obtain ⟨y1, hy1⟩ := own_get (xs := S) hs7.2.2
   have hvy1 : fv S (ii + 1) = y1.toInt := by rw [← own_fv hy1, hs7.2.1]
   have hry1 : 1 ≤ y1.toInt ∧ y1.toInt ≤ (vv : Int) + 1 := by have q := hs (ii + 1) (Nat.le_add_left _ _) hi1; rw [hvy1] at q; exact ⟨q.1, Int.le_trans q.2 (Int.le_add_of_nonneg_right (by decide))⟩
   refine dS (ldI X104 hx hZ e104 (A5.other W102 ne_a5_b1) (j := i6) (x := (.int y1)) (own_nneg hs7.1) (by rw [List.getElem?_map, hy1]; rfl) (g := (mkF m 70 #[vr a1, vi p2, vi p3, vr a4, vr a5, vr a6, vi i6, vu] [(.int i6), (.ref a5), (.ref b1)])) rfl rfl (hb hby d1_70)) ?_
   show Aq T104 71 #[vr a1, vi p2, vi p3, vr a4, vr a5, vr a6, vi i6, vu] [(.int y1), (.ref b1)]
   refine dS (fun t k => Jvm.Free.XT.dup2 X104.here hx rfl (hb hby d1_71) rfl rfl rfl k) ?_
   show Aq T104 72 #[vr a1, vi p2, vi p3, vr a4, vr a5, vr a6, vi i6, vu] [(.int y1), (.ref b1), (.int y1), (.ref b1)]
   have hiy := own_in hry1 hlss1
   obtain ⟨y2, hy2⟩ := own_get (xs := ss1) hiy.2.1
   have hgy : y2.toInt = if y1.toInt = x1.toInt then x2.toInt + 1 else cE (fv F) (fv S) ii y1.toInt := hsv1.at hy2 hiy.2.2.2 hiy.2.2.1
   have hz2 := own_p1 (x := y2) (net_e hii hgx hgy) (by omega)
   refine dS (ldI X104 hx hZ e104 f103 (j := y1) (x := (.int y2)) (own_nneg hiy.1) (by rw [List.getElem?_map, hy2]; rfl) (g := (mkF m 72 #[vr a1, vi p2, vi p3, vr a4, vr a5, vr a6, vi i6, vu] [(.int y1), (.ref b1), (.int y1), (.ref b1)])) rfl rfl (hb hby d1_72)) ?_
   show Aq T104 73 #[vr a1, vi p2, vi p3, vr a4, vr a5, vr a6, vi i6, vu] [(.int y2), (.int y1), (.ref b1)]
   refine iC X104 hx hby d1_73 (z := 1) rfl ?_
   refine iA X104 hx hby d1_74 ?_
   obtain ⟨ss2, hss2⟩ : ∃ l, l = ss1.set (y1).toNatClampNeg (y2 + (1 : Int32)) := ⟨_, rfl⟩
   have hlss2 := own_len hlss1 hss2
   have hsv2 := hsv1.set hiy.2.2.1 hz2 hss2
   obtain ⟨T105, h105, X105, e105, W105, A105, st105⟩ := stoI X104 hx hZ e104 f103 (j := y1) (own_nneg hiy.1) (i := (y1).toNatClampNeg) rfl (by rw [List.length_map]; exact hiy.2.1) (g := (mkF m 75 #[vr a1, vi p2, vi p3, vr a4, vr a5, vr a6, vi i6, vu] [(.int (y2 + (1 : Int32))), (.int y1), (.ref b1)])) rfl rfl (hb hby d1_75)
   have f106 := (F_vertexCount.other W102 (Or.inl ne_a1_b1)).other W105 (Or.inl ne_a1_b1)
   have f107 := (F_roadCount.other W102 (Or.inl ne_a1_b1)).other W105 (Or.inl ne_a1_b1)
   have f108 := (F_firstEnd.other W102 (Or.inl ne_a1_b1)).other W105 (Or.inl ne_a1_b1)
   have f109 := (F_secondEnd.other W102 (Or.inl ne_a1_b1)).other W105 (Or.inl ne_a1_b1)
   have f110 := (F_incidenceStart.other W102 (Or.inl ne_a1_b1)).other W105 (Or.inl ne_a1_b1)
   have f111 := (F_incident.other W102 (Or.inl ne_a1_b1)).other W105 (Or.inl ne_a1_b1)
   have f112 : Ax Z h105 b1 .int (ss2.map Value.int) := (by rw [hss2, List.map_set]; exact A105)
   refine dS st105 ?_
   show Aq T105 76 #[vr a1, vi p2, vi p3, vr a4, vr a5, vr a6, vi i6, vu] []
   refine dS (fun t k => XS.iinc X105.here hx rfl (hb hby d1_76) rfl (l' := #[vr a1, vi p2, vi p3, vr a4, vr a5, vr a6, vi (i6 + (1 : Int32)), vu]) rfl k) ?_
   show Aq T105 79 #[vr a1, vi p2, vi p3, vr a4, vr a5, vr a6, vi (i6 + (1 : Int32)), vu] []
   refine gO X105 hx hby d1_79 (pc' := 43) (H := ?_)
   have hsv3 := hsv2.same (fun j hj => net_d hvx1 hvy1 hgx hgy j)
   exact ih T105 _ h105 ss2 (i6 + (1 : Int32)) (ii + 1) X105 (Fr.snoc X105 (Fr.snoc X102 N0 gb) gb) (lw (lw Z0 W102) W105) e105 ((K0.wr W102 (Or.inr sz_b1)).wr W105 (Or.inr sz_b1)) ((E1.wr W102).wr W105) f106 f107 f108 f109 ((F_length.other W102 (Or.inl ne_a1_b1)).other W105 (Or.inl ne_a1_b1)) f110 f111 ((A4.other W102 ne_a4_b1).other W105 ne_a4_b1) ((A5.other W102 ne_a5_b1).other W105 ne_a5_b1) f112 hlss2 hkk (by rw [hi7]; rfl) hi1 hsv3
theorem d1_0 : dq cd45 0 (.aload_n 0) 1 := by decide +kernel
theorem d1_1 : dq cd45 1 (.invokespecial 1) 3 := by decide +kernel
theorem d1_4 : dq cd45 4 (.aload_n 0) 1 := by decide +kernel
theorem d1_5 : dq cd45 5 (.iload_n 1) 1 := by decide +kernel
theorem d1_6 : dq cd45 6 (.putfield 7) 3 := by decide +kernel
theorem d1_9 : dq cd45 9 (.aload_n 0) 1 := by decide +kernel
theorem d1_10 : dq cd45 10 (.iload_n 2) 1 := by decide +kernel
theorem d1_11 : dq cd45 11 (.putfield 13) 3 := by decide +kernel
theorem d1_14 : dq cd45 14 (.aload_n 0) 1 := by decide +kernel
theorem d1_15 : dq cd45 15 (.aload_n 3) 1 := by decide +kernel
theorem d1_16 : dq cd45 16 (.putfield 16) 3 := by decide +kernel
theorem d1_19 : dq cd45 19 (.aload_n 0) 1 := by decide +kernel
theorem d1_20 : dq cd45 20 (.aload 4) 2 := by decide +kernel
theorem d1_22 : dq cd45 22 (.putfield 20) 3 := by decide +kernel
theorem d1_25 : dq cd45 25 (.aload_n 0) 1 := by decide +kernel
theorem d1_26 : dq cd45 26 (.aload 5) 2 := by decide +kernel
theorem d1_28 : dq cd45 28 (.putfield 23) 3 := by decide +kernel
theorem d1_31 : dq cd45 31 (.aload_n 0) 1 := by decide +kernel
theorem d1_32 : dq cd45 32 (.iload_n 1) 1 := by decide +kernel
theorem d1_33 : dq cd45 33 (.iconst 2) 1 := by decide +kernel
theorem d1_34 : dq cd45 34 .iadd 1 := by decide +kernel
theorem d1_35 : dq cd45 35 (.newarray .int) 2 := by decide +kernel
theorem d1_37 : dq cd45 37 (.putfield 26) 3 := by decide +kernel
theorem d1_40 : dq cd45 40 (.iconst 1) 1 := by decide +kernel
theorem d1_41 : dq cd45 41 (.istore 6) 2 := by decide +kernel
theorem ef_1 (m : MethodId) (a1 : Addr) (p2 : Int32) (p3 : Int32) (a4 : Addr) (a5 : Addr) (a6 : Addr) : entryFrame m #[(.ref a1), (.int p2), (.int p3), (.ref a4), (.ref a5), (.ref a6)] 8 = mkF m 0 #[.val (.ref a1), .val (.int p2), .val (.int p3), .val (.ref a4), .val (.ref a5), .val (.ref a6), .unset, .unset] [] := by first | (simp [entryFrame, mkF, argsToLocals, Value.category]; done) | rfl
theorem rm1 (l : Launch) (Z : State) (a0 : Array Value) (hw : HH a0 Z) (ws : List Jvm.Cond) (a1 : Addr) (p2 p3 : Int32) (a4 a5 a6 : Addr) (F S : List Int32) (nn vv : Nat) (h0 : Heap) (n0 : Nat) (Z0 : n0 ≤ h0.size) (E1 : Fl20 Z h0 a1) (F_vertexCount : Fl11 Z h0 a1 (.int 0)) (F_roadCount : Fl12 Z h0 a1 (.int 0)) (F_firstEnd : Fl21 Z h0 a1 .null) (F_secondEnd : Fl22 Z h0 a1 .null) (F_length : Fl23 Z h0 a1 .null) (F_incidenceStart : Fl24 Z h0 a1 .null) (F_incident : Fl25 Z h0 a1 .null) (A4 : Ax Z h0 a4 .int (F.map Value.int)) (ne_a1_a4 : a1 ≠ a4) (A5 : Ax Z h0 a5 .int (S.map Value.int)) (ne_a1_a5 : a1 ≠ a5) (g1 : n0 ≤ a1) (hv : p2.toInt = vv) (hv2 : vv ≤ 2) (hn : p3.toInt = nn) (hn2 : nn ≤ 2) (hF : nn < F.length) (hS : nn < S.length) (hf : ∀ i, 1 ≤ i → i ≤ nn → 1 ≤ fv F i ∧ fv F i ≤ (vv : Int)) (hs : ∀ i, 1 ≤ i → i ≤ nn → 1 ≤ fv S i ∧ fv S i ≤ (vv : Int)) : MF l "com/example/dendrocover/dendrocover/Network" "<init>" "(II[I[I[I)V" prog_20_method_1_code 8 none ws ⟨1, 2, 8, 12⟩ Z h0 #[(.ref a1), (.int p2), (.int p3), (.ref a4), (.ref a5), (.ref a6)] (fun v h L => v = none ∧ Fr n0 L ∧ Keep h0 h [a1] ∧ Fl20 Z h a1 ∧ Fl11 Z h a1 (.int p2) ∧ Fl12 Z h a1 (.int p3) ∧ Fl21 Z h a1 (.ref a4) ∧ Fl22 Z h a1 (.ref a5) ∧ Fl23 Z h a1 (.ref a6)) := by
 refine own_body (n0 := n0) (plainFor_of_name pn_4) (fun m => ef_1 m a1 p2 p3 a4 a5 a6) ?_
 intro p e s m below meth c s₁ hZ hx hby hml hown hlk hret hnm X0 e0 N0
 show Aq s₁ 0 #[vr a1, vi p2, vi p3, vr a4, vr a5, vr a6, vu, vu] []
 refine aN X0 hx hby d1_0 rfl rfl ?_
 obtain ⟨T101, X101, e101, st101⟩ := initO X0 hx hZ hown (tw7 hw) (tw8 hw) (tw9 hw) e0 (g := (mkF m 1 #[vr a1, vi p2, vi p3, vr a4, vr a5, vr a6, vu, vu] [(.ref a1)])) rfl (by rw [hml]; rfl) rfl (hb hby d1_1) (by decide) (W := 0) (by show 2 * 0 + _ ≤ _; exact Nat.le_of_eq rfl) (by decide)
 refine dS st101 ?_
 show Aq T101 4 #[vr a1, vi p2, vi p3, vr a4, vr a5, vr a6, vu, vu] []
 refine aN X101 hx hby d1_4 rfl rfl ?_
 refine iN X101 hx hby d1_5 rfl ?_
 obtain ⟨T102, h102, X102, e102, W102, st102⟩ := putF X101 hx hZ hown (host := "") (Or.inl (tw10 hw)) Via.refl e101 F_vertexCount E1 (Or.inr ⟨(tw11 hw), rfl, hnm⟩) (tw2 hw) (ty := .int) (by decide) rfl rfl (g := (mkF m 6 #[vr a1, vi p2, vi p3, vr a4, vr a5, vr a6, vu, vu] [(.int p2), (.ref a1)])) rfl rfl (hb hby d1_6)
 have f103 := F_vertexCount.same W102
 have f104 := F_roadCount.other W102 (Or.inr (sq45 hw))
 have f105 := F_firstEnd.other W102 (Or.inr (sq46 hw))
 have f106 := F_secondEnd.other W102 (Or.inr (sq47 hw))
 have f107 := F_length.other W102 (Or.inr (sq48 hw))
 have f108 := F_incidenceStart.other W102 (Or.inr (sq49 hw))
 have f109 := F_incident.other W102 (Or.inr (sq50 hw))
 refine dS st102 ?_
 show Aq T102 9 #[vr a1, vi p2, vi p3, vr a4, vr a5, vr a6, vu, vu] []
 refine aN X102 hx hby d1_9 rfl rfl ?_
 refine iN X102 hx hby d1_10 rfl ?_
 obtain ⟨T110, h110, X110, e110, W110, st110⟩ := putF X102 hx hZ hown (host := "") (Or.inl (tw12 hw)) Via.refl e102 f104 (E1.wr W102) (Or.inr ⟨(tw13 hw), rfl, hnm⟩) (tw2 hw) (ty := .int) (by decide) rfl rfl (g := (mkF m 11 #[vr a1, vi p2, vi p3, vr a4, vr a5, vr a6, vu, vu] [(.int p3), (.ref a1)])) rfl rfl (hb hby d1_11)
 have f111 := f103.other W110 (Or.inr (sq51 hw))
 have f112 := f104.same W110
 have f113 := f105.other W110 (Or.inr (sq52 hw))
 have f114 := f106.other W110 (Or.inr (sq53 hw))
 have f115 := f107.other W110 (Or.inr (sq54 hw))
 have f116 := f108.other W110 (Or.inr (sq55 hw))
 have f117 := f109.other W110 (Or.inr (sq56 hw))
 refine dS st110 ?_
 show Aq T110 14 #[vr a1, vi p2, vi p3, vr a4, vr a5, vr a6, vu, vu] []
 refine aN X110 hx hby d1_14 rfl rfl ?_
 refine aN X110 hx hby d1_15 rfl rfl ?_
 obtain ⟨T118, h118, X118, e118, W118, st118⟩ := putF X110 hx hZ hown (host := "") (Or.inl (tw14 hw)) Via.refl e110 f113 ((E1.wr W102).wr W110) (Or.inr ⟨(tw15 hw), rfl, hnm⟩) (tw2 hw) (ty := (.array .int)) (by decide) rfl rfl (g := (mkF m 16 #[vr a1, vi p2, vi p3, vr a4, vr a5, vr a6, vu, vu] [(.ref a4), (.ref a1)])) rfl rfl (hb hby d1_16)
 have f119 := f111.other W118 (Or.inr (sq57 hw))
 have f120 := f112.other W118 (Or.inr (sq58 hw))
 have f121 := f113.same W118
 have f122 := f114.other W118 (Or.inr (sq59 hw))
 have f123 := f115.other W118 (Or.inr (sq60 hw))
 have f124 := f116.other W118 (Or.inr (sq61 hw))
 have f125 := f117.other W118 (Or.inr (sq62 hw))
 have f126 := ((A4.other W102 ne_a1_a4.symm).other W110 ne_a1_a4.symm).other W118 ne_a1_a4.symm
 have f127 := ((A5.other W102 ne_a1_a5.symm).other W110 ne_a1_a5.symm).other W118 ne_a1_a5.symm
 have K118 := (((kr h0 [a1]).wr W102 (Or.inl me0)).wr W110 (Or.inl me0)).wr W118 (Or.inl me0)
 refine dS st118 ?_
 show Aq T118 19 #[vr a1, vi p2, vi p3, vr a4, vr a5, vr a6, vu, vu] []
 refine aN X118 hx hby d1_19 rfl rfl ?_
 refine aL X118 hx hby d1_20 rfl rfl ?_
 obtain ⟨T128, h128, X128, e128, W128, st128⟩ := putF X118 hx hZ hown (host := "") (Or.inl (tw16 hw)) Via.refl e118 f122 (((E1.wr W102).wr W110).wr W118) (Or.inr ⟨(tw17 hw), rfl, hnm⟩) (tw2 hw) (ty := (.array .int)) (by decide) rfl rfl (g := (mkF m 22 #[vr a1, vi p2, vi p3, vr a4, vr a5, vr a6, vu, vu] [(.ref a5), (.ref a1)])) rfl rfl (hb hby d1_22)
 have f129 := f119.other W128 (Or.inr (sq63 hw))
 have f130 := f120.other W128 (Or.inr (sq64 hw))
 have f131 := f121.other W128 (Or.inr (sq65 hw))
 have f132 := f122.same W128
 have f133 := f123.other W128 (Or.inr (sq66 hw))
 have f134 := f124.other W128 (Or.inr (sq67 hw))
 have f135 := f125.other W128 (Or.inr (sq68 hw))
 have N128 := Fr.snoc X128 (Fr.snoc X118 (Fr.snoc X110 (Fr.snoc X102 N0 g1) g1) g1) g1
 refine dS st128 ?_
 show Aq T128 25 #[vr a1, vi p2, vi p3, vr a4, vr a5, vr a6, vu, vu] []
 refine aN X128 hx hby d1_25 rfl rfl ?_
 refine aL X128 hx hby d1_26 rfl rfl ?_
 obtain ⟨T136, h136, X136, e136, W136, st136⟩ := putF X128 hx hZ hown (host := "") (Or.inl (tw18 hw)) Via.refl e128 f133 ((((E1.wr W102).wr W110).wr W118).wr W128) (Or.inr ⟨(tw19 hw), rfl, hnm⟩) (tw2 hw) (ty := (.array .int)) (by decide) rfl rfl (g := (mkF m 28 #[vr a1, vi p2, vi p3, vr a4, vr a5, vr a6, vu, vu] [(.ref a6), (.ref a1)])) rfl rfl (hb hby d1_28)
 have f137 := f129.other W136 (Or.inr (sq69 hw))
 have f138 := f130.other W136 (Or.inr (sq70 hw))
 have f139 := f131.other W136 (Or.inr (sq71 hw))
 have f140 := f132.other W136 (Or.inr (sq72 hw))
 have f141 := f133.same W136
 have f142 := f134.other W136 (Or.inr (sq73 hw))
 have f143 := f135.other W136 (Or.inr (sq74 hw))
 refine dS st136 ?_
 show Aq T136 31 #[vr a1, vi p2, vi p3, vr a4, vr a5, vr a6, vu, vu] []
 refine aN X136 hx hby d1_31 rfl rfl ?_
 refine iN X136 hx hby d1_32 rfl ?_
 refine iC X136 hx hby d1_33 (z := 2) rfl ?_
 refine iA X136 hx hby d1_34 ?_
 have hp2 : (p2 + (2 : Int32)).toInt = vv + 2 := by rw [own_plus (d := 2) rfl (by omega) (by omega), hv]
 have hpc := own_clamp (x := p2 + (2 : Int32)) (by omega)
 obtain ⟨T144, h144, k144, X144, e144, E144, A144, B144, st144⟩ := newPE X136 hx hZ (hw _ (List.mem_of_getElem? (i := 0) rfl)) e136 (g := (mkF m 35 #[vr a1, vi p2, vi p3, vr a4, vr a5, vr a6, vu, vu] [(.int (p2 + (2 : Int32))), (.ref a1)])) rfl (hb hby d1_35) rfl (own_nneg (by omega)) (cap := 4) (by omega) (by decide) (by decide) (by decide) (ad := "[I") (by decide)
 obtain ⟨b144, gq144⟩ : ∃ z, z = h136.size := ⟨_, rfl⟩
 rw [← gq144] at A144 B144 st144
 have sz_b144 := lb ((K118.wr W128 (Or.inl me0)).wr W136 (Or.inl me0)).1 gq144
 have Z144 := lq (lw (lw (lw (lw (lw Z0 W102) W110) W118) W128) W136) E144.1
 have f145 : Ax Z h144 b144 .int (List.replicate (vv + 2) (.int 0)) := Ax.new (ty := .int) (i := (vv + 2)) A144 (by omega)
 refine dS st144 ?_
 show Aq T144 37 #[vr a1, vi p2, vi p3, vr a4, vr a5, vr a6, vu, vu] [(.ref b144), (.ref a1)]
 obtain ⟨T146, h146, X146, e146, W146, st146⟩ := putF X144 hx hZ hown (host := "") (Or.inl (tw20 hw)) Via.refl e144 (f142.ext E144) ((((((E1.wr W102).wr W110).wr W118).wr W128).wr W136).ext E144) (Or.inr ⟨(tw21 hw), rfl, hnm⟩) (tw2 hw) (ty := (.array .int)) (by decide) rfl rfl (g := (mkF m 37 #[vr a1, vi p2, vi p3, vr a4, vr a5, vr a6, vu, vu] [(.ref b144), (.ref a1)])) rfl rfl (hb hby d1_37)
 have f147 := ((((((E1.wr W102).wr W110).wr W118).wr W128).wr W136).ext E144).wr W146
 have f148 := (f137.ext E144).other W146 (Or.inr (sq75 hw))
 have f149 := (f138.ext E144).other W146 (Or.inr (sq76 hw))
 have f150 := (f139.ext E144).other W146 (Or.inr (sq77 hw))
 have f151 := (f140.ext E144).other W146 (Or.inr (sq78 hw))
 have f152 := (f141.ext E144).other W146 (Or.inr (sq79 hw))
 have f153 := (f142.ext E144).same W146
 have f154 := (f143.ext E144).other W146 (Or.inr (sq80 hw))
 have f155 := (((f126.other W128 ne_a1_a4.symm).other W136 ne_a1_a4.symm).ext E144).other W146 ne_a1_a4.symm
 have f156 := (((f127.other W128 ne_a1_a5.symm).other W136 ne_a1_a5.symm).ext E144).other W146 ne_a1_a5.symm
 have ne157 := nl (((((E1.wr W102).wr W110).wr W118).wr W128).wr W136).lt gq144
 have K146 := (((K118.wr W128 (Or.inl me0)).wr W136 (Or.inl me0)).ext E144).wr W146 (Or.inl me0)
 refine dS st146 ?_
 show Aq T146 40 #[vr a1, vi p2, vi p3, vr a4, vr a5, vr a6, vu, vu] []
 refine iC X146 hx hby d1_40 (z := 1) rfl ?_
 refine sL X146 hx hby d1_41 (l' := #[vr a1, vi p2, vi p3, vr a4, vr a5, vr a6, vi 1, vu]) rfl ?_
 have ne158 := nl ((f126.other W128 ne_a1_a4.symm).other W136 ne_a1_a4.symm).lt gq144
 have ne159 := nl ((f127.other W128 ne_a1_a5.symm).other W136 ne_a1_a5.symm).lt gq144
 have hsv : SV (List.replicate (vv + 2) (0 : Int32)) (fun j => cE (fv F) (fv S) 0 j) := fun j y hy hj => by
  rw [List.getElem?_replicate] at hy; split at hy
  ·cases hy; rfl
  ·cases hy
 exact lp43 a1 p2 p3 a4 a5 a6 F S nn vv b144 hx hZ hw hby hml hown hlk hret hnm g1 hv hv2 hn hn2 hF hS hf hs (lb (lw (lw (lw (lw (lw Z0 W102) W110) W118) W128) W136) gq144) sz_b144 ne_a1_a4 ne_a1_a5 ne157 ne158 ne159 (nn + 1)  T146 _ h146 (List.replicate (vv + 2) (0 : Int32)) (1 : Int32) 0 X146 (Fr.snoc X146 (Fr.snoc X136 N128 g1) g1) (lw Z144 W146) e146 K146 f147 f148 f149 f150 f151 f152 f153 f154 f155 f156 (own_rep (f145.other W146 ne157.symm)) (List.length_replicate) (by omega) rfl (Nat.zero_le _) hsv
theorem own_bit (p : Int32) : (p &&& (1 : Int32)) = (0 : Int32) ∨ (p &&& (1 : Int32)) = (1 : Int32) := by
 have m := c_mask p (1 : Int32) 1 (by decide) (by decide)
 simp only [← Int32.toInt_inj, show (1 : Int32).toInt = 1 from rfl, show (0 : Int32).toInt = 0 from rfl]
 rw [show ((2 ^ 1 : Nat) : Int) = 2 from rfl] at m
 omega
theorem own_nf : ∀ i, 1 ≤ i → i ≤ 2 → 1 ≤ fv [(0 : Int32), (1 : Int32), (2 : Int32)] i ∧ fv [(0 : Int32), (1 : Int32), (2 : Int32)] i ≤ ((2 : Nat) : Int) := by
 intro i a b
 obtain rfl | rfl : i = 1 ∨ i = 2 := by omega
 ·exact ⟨by decide, by decide⟩
 ·exact ⟨by decide, by decide⟩
theorem own_ns : ∀ i, 1 ≤ i → i ≤ 2 → 1 ≤ fv [(0 : Int32), (2 : Int32), (1 : Int32)] i ∧ fv [(0 : Int32), (2 : Int32), (1 : Int32)] i ≤ ((2 : Nat) : Int) := by
 intro i a b
 obtain rfl | rfl : i = 1 ∨ i = 2 := by omega
 ·exact ⟨by decide, by decide⟩
 ·exact ⟨by decide, by decide⟩
theorem own_roads {p x y : Int32} (hx : ((1 : Int32) + (p &&& (1 : Int32))) = x) (hy : ((3 : Int32) - x) = y) : (x = (1 : Int32) ∨ x = (2 : Int32)) ∧ (y = (1 : Int32) ∨ y = (2 : Int32)) ∧ ∀ q2 q3 q4 q5 z : Int64, (if x = (1 : Int32) then (if x = (1 : Int32) then q4 else (if y = (1 : Int32) then q2 else z)) else (if x = (1 : Int32) then (if y = (1 : Int32) then z else q2) else q4)) = q4 ∧ (if x = (1 : Int32) then (if x = (1 : Int32) then q5 else (if y = (1 : Int32) then q3 else z)) else (if x = (1 : Int32) then (if y = (1 : Int32) then z else q3) else q5)) = q5 ∧ (if y = (1 : Int32) then (if x = (1 : Int32) then q5 else (if y = (1 : Int32) then q3 else z)) else (if x = (1 : Int32) then (if y = (1 : Int32) then z else q3) else q5)) = q3 := by
 rcases own_bit p with h | h
 ·rw [h] at hx
  obtain rfl : (1 : Int32) = x := hx
  obtain rfl : (2 : Int32) = y := hy
  exact ⟨Or.inl rfl, Or.inr rfl, fun _ _ _ _ _ => ⟨rfl, rfl, rfl⟩⟩
 ·rw [h] at hx
  obtain rfl : (2 : Int32) = x := hx
  obtain rfl : (1 : Int32) = y := hy
  exact ⟨Or.inr rfl, Or.inl rfl, fun _ _ _ _ _ => ⟨rfl, rfl, rfl⟩⟩
theorem pn_0 : plainName "com/example/dendrocover/dendrocover/PlacementAddRowPinLaw" = true := by first | (simp [plainName, overriddenIn]; done) | decide +kernel
theorem ef_0 (m : MethodId) (p1 : Int32) (q2 : Int64) (q3 : Int64) (q4 : Int64) (q5 : Int64) (q6 : Int64) : entryFrame m #[(.int p1), (.long q2), (.long q3), (.long q4), (.long q5), (.long q6)] maxLocals = mkF m 0 #[.val (.int p1), .val (.long q2), .second, .val (.long q3), .second, .val (.long q4), .second, .val (.long q5), .second, .val (.long q6), .second, .unset, .unset, .unset, .unset, .unset, .unset, .unset, .unset, .unset, .unset, .unset] [] := by first | (simp [entryFrame, mkF, argsToLocals, Value.category, maxLocals]; done) | rfl
def Qrm0 (Z : State) (p1 : Int32) (q2 : Int64) (q3 : Int64) (q4 : Int64) (q5 : Int64) (q6 : Int64) (h0 : Heap) (n0 : Nat) : Option Value → Heap → List Loc → Prop := fun v h L => v = some (.int 1) ∧ Fr n0 L
theorem rm0 (l : Launch) (Z : State) (a0 : Array Value) (hw : HH a0 Z) (ws : List Jvm.Cond) (p1 : Int32) (q2 : Int64) (q3 : Int64) (q4 : Int64) (q5 : Int64) (q6 : Int64) (h0 : Heap) (n0 : Nat) (Z0 : n0 ≤ h0.size) (ST : Stat Z h0) :
  MetFree l x (head1 (Jvm.Cond.code x code maxLocals ret :: ws) room_1) (fun a U => a = #[(.int p1), (.long q2), (.long q3), (.long q4), (.long q5), (.long q6)] ∧ Z.Warmed39 U.vm ∧ U.heap = h0) (fun _ _ _ _ _ => True) (fun _ U o U' => ∃ v L, o = .returned v ∧ Qrm0 Z p1 q2 q3 q4 q5 q6 h0 n0 v U'.heap L ∧ FrameEnd U o U' L room_1.cells room_1.slots) := by
 refine MetFree.of_bodySF (plainFor_of_name pn_0) hisR ?_
 intro p e s m args below meth c s₁ Bd hml0 hP hK
 obtain ⟨rfl, hZ, hhp⟩ := hP
 have hx := Bd.exec
 have hby := Bd.bytes
 have hml : c.maxLocals = 22 := hml0
 have hown : s.vm.findClass "com/example/dendrocover/dendrocover/PlacementAddRowPinLaw" = some m.cls := findClass_of_methodNamed Bd.named
 have hnm := (name_of_methodNamed Bd.named Bd.method).1
 have hlk : meth.locks = false := BodyLoose.notSynchronized Bd
 have hret := Bd.returns
 have X0 : Stand p l e room_1 s m #[(.int p1), (.long q2), (.long q3), (.long q4), (.long q5), (.long q6)] below meth c s₁ [] 0 0 := Stand.of_body Bd
 have e0 : s₁.heap = h0 := by rw [← hhp, Bd.state]; rfl
 have N0 := Fr.nil n0
 show Done p e below s (Qrm0 Z p1 q2 q3 q4 q5 q6 h0 n0) room_1.cells room_1.slots (s₁.setTop (entryFrame m #[(.int p1), (.long q2), (.long q3), (.long q4), (.long q5), (.long q6)] maxLocals))
 refine dS (fun t k => castTop (ef_0 m p1 q2 q3 q4 q5 q6) k) ?_
 show Aq s₁ 0 #[vi p1, vj q2, vz, vj q3, vz, vj q4, vz, vj q5, vz, vj q6, vz, vu, vu, vu, vu, vu, vu, vu, vu, vu, vu, vu] []
 refine iC X0 hx hby at_0 (z := 3) rfl ?_
 obtain ⟨T101, h101, k101, X101, e101, E101, A101, B101, st101⟩ := newPE X0 hx hZ (hw _ (List.mem_of_getElem? (i := 0) rfl)) e0 (g := (mkF m 1 #[vi p1, vj q2, vz, vj q3, vz, vj q4, vz, vj q5, vz, vj q6, vz, vu, vu, vu, vu, vu, vu, vu, vu, vu, vu, vu] [(.int 3)])) rfl (hb hby at_1) rfl (by decide) (cap := 3) (by decide) (by decide) (by decide) (by decide) (ad := "[I") (by decide)
 obtain ⟨b101, gq101⟩ : ∃ z, z = h0.size := ⟨_, rfl⟩
 rw [← gq101] at A101 B101 st101
 have sz_b101 := lb (kr h0 []).1 gq101
 have f102 : Ax Z h101 b101 .int [(.int 0), (.int 0), (.int 0)] := Ax.new (ty := .int) (i := 3) A101 (by decide)
 refine dS st101 ?_
 show Aq T101 3 #[vi p1, vj q2, vz, vj q3, vz, vj q4, vz, vj q5, vz, vj q6, vz, vu, vu, vu, vu, vu, vu, vu, vu, vu, vu, vu] [(.ref b101)]
 refine dU X101 hx hby at_3 rfl ?_
 refine iC X101 hx hby at_4 (z := 0) rfl ?_
 refine iC X101 hx hby at_5 (z := 0) rfl ?_
 obtain ⟨T103, h103, X103, e103, W103, A103, st103⟩ := stoI X101 hx hZ e101 f102 (j := (0 : Int32)) (by decide) (i := 0) (by decide) (Nat.le_of_ble_eq_true rfl) (g := (mkF m 6 #[vi p1, vj q2, vz, vj q3, vz, vj q4, vz, vj q5, vz, vj q6, vz, vu, vu, vu, vu, vu, vu, vu, vu, vu, vu, vu] [(.int 0), (.int 0), (.ref b101), (.ref b101)])) rfl rfl (hb hby at_6)
 have f104 : Ax Z h103 b101 .int [(.int 0), (.int 0), (.int 0)] := A103
 refine dS st103 ?_
 show Aq T103 7 #[vi p1, vj q2, vz, vj q3, vz, vj q4, vz, vj q5, vz, vj q6, vz, vu, vu, vu, vu, vu, vu, vu, vu, vu, vu, vu] [(.ref b101)]
 refine dU X103 hx hby at_7 rfl ?_
 refine iC X103 hx hby at_8 (z := 1) rfl ?_
 refine iC X103 hx hby at_9 (z := 1) rfl ?_
 obtain ⟨T105, h105, X105, e105, W105, A105, st105⟩ := stoI X103 hx hZ e103 f104 (j := (1 : Int32)) (by decide) (i := 1) (by decide) (Nat.le_of_ble_eq_true rfl) (g := (mkF m 10 #[vi p1, vj q2, vz, vj q3, vz, vj q4, vz, vj q5, vz, vj q6, vz, vu, vu, vu, vu, vu, vu, vu, vu, vu, vu, vu] [(.int 1), (.int 1), (.ref b101), (.ref b101)])) rfl rfl (hb hby at_10)
 have f106 : Ax Z h105 b101 .int [(.int 0), (.int 1), (.int 0)] := A105
 have K105 := (((kr h0 []).ext E101).wr W103 (Or.inr sz_b101)).wr W105 (Or.inr sz_b101)
 refine dS st105 ?_
 show Aq T105 11 #[vi p1, vj q2, vz, vj q3, vz, vj q4, vz, vj q5, vz, vj q6, vz, vu, vu, vu, vu, vu, vu, vu, vu, vu, vu, vu] [(.ref b101)]
 refine dU X105 hx hby at_11 rfl ?_
 refine iC X105 hx hby at_12 (z := 2) rfl ?_
 refine iC X105 hx hby at_13 (z := 2) rfl ?_
 obtain ⟨T107, h107, X107, e107, W107, A107, st107⟩ := stoI X105 hx hZ e105 f106 (j := (2 : Int32)) (by decide) (i := 2) (by decide) (Nat.le_of_ble_eq_true rfl) (g := (mkF m 14 #[vi p1, vj q2, vz, vj q3, vz, vj q4, vz, vj q5, vz, vj q6, vz, vu, vu, vu, vu, vu, vu, vu, vu, vu, vu, vu] [(.int 2), (.int 2), (.ref b101), (.ref b101)])) rfl rfl (hb hby at_14)
 have f108 : Ax Z h107 b101 .int [(.int 0), (.int 1), (.int 2)] := A107
 have N107 := Fr.snoc X107 (Fr.snoc X105 (Fr.snoc X103 N0 (lb Z0 gq101)) (lb Z0 gq101)) (lb Z0 gq101)
 refine dS st107 ?_
 show Aq T107 15 #[vi p1, vj q2, vz, vj q3, vz, vj q4, vz, vj q5, vz, vj q6, vz, vu, vu, vu, vu, vu, vu, vu, vu, vu, vu, vu] [(.ref b101)]
 refine aS X107 hx hby at_15 rfl (l' := #[vi p1, vj q2, vz, vj q3, vz, vj q4, vz, vj q5, vz, vj q6, vz, vr b101, vu, vu, vu, vu, vu, vu, vu, vu, vu, vu]) rfl ?_
 refine iC X107 hx hby at_17 (z := 3) rfl ?_
 obtain ⟨T109, h109, k109, X109, e109, E109, A109, B109, st109⟩ := newPE X107 hx hZ (hw _ (List.mem_of_getElem? (i := 0) rfl)) e107 (g := (mkF m 18 #[vi p1, vj q2, vz, vj q3, vz, vj q4, vz, vj q5, vz, vj q6, vz, vr b101, vu, vu, vu, vu, vu, vu, vu, vu, vu, vu] [(.int 3)])) rfl (hb hby at_18) rfl (by decide) (cap := 3) (by decide) (by decide) (by decide) (by decide) (ad := "[I") (by decide)
 obtain ⟨b109, gq109⟩ : ∃ z, z = h107.size := ⟨_, rfl⟩
 rw [← gq109] at A109 B109 st109
 have sz_b109 := lb (K105.wr W107 (Or.inr sz_b101)).1 gq109
 have Z109 := lq (lw (lw (lw (lq Z0 E101.1) W103) W105) W107) E109.1
 have f110 : Ax Z h109 b109 .int [(.int 0), (.int 0), (.int 0)] := Ax.new (ty := .int) (i := 3) A109 (by decide)
 refine dS st109 ?_
 show Aq T109 20 #[vi p1, vj q2, vz, vj q3, vz, vj q4, vz, vj q5, vz, vj q6, vz, vr b101, vu, vu, vu, vu, vu, vu, vu, vu, vu, vu] [(.ref b109)]
 refine dU X109 hx hby at_20 rfl ?_
 refine iC X109 hx hby at_21 (z := 0) rfl ?_
 refine iC X109 hx hby at_22 (z := 0) rfl ?_
 obtain ⟨T111, h111, X111, e111, W111, A111, st111⟩ := stoI X109 hx hZ e109 f110 (j := (0 : Int32)) (by decide) (i := 0) (by decide) (Nat.le_of_ble_eq_true rfl) (g := (mkF m 23 #[vi p1, vj q2, vz, vj q3, vz, vj q4, vz, vj q5, vz, vj q6, vz, vr b101, vu, vu, vu, vu, vu, vu, vu, vu, vu, vu] [(.int 0), (.int 0), (.ref b109), (.ref b109)])) rfl rfl (hb hby at_23)
 have ne112 := nl (((B101.wr W103).wr W105).wr W107).lt gq109
 have f113 : Ax Z h111 b109 .int [(.int 0), (.int 0), (.int 0)] := A111
 have N111 := Fr.snoc X111 N107 (lb (lw (lw (lw (lq Z0 E101.1) W103) W105) W107) gq109)
 refine dS st111 ?_
 show Aq T111 24 #[vi p1, vj q2, vz, vj q3, vz, vj q4, vz, vj q5, vz, vj q6, vz, vr b101, vu, vu, vu, vu, vu, vu, vu, vu, vu, vu] [(.ref b109)]
 refine dU X111 hx hby at_24 rfl ?_
 refine iC X111 hx hby at_25 (z := 1) rfl ?_
 refine iC X111 hx hby at_26 (z := 2) rfl ?_
 obtain ⟨T114, h114, X114, e114, W114, A114, st114⟩ := stoI X111 hx hZ e111 f113 (j := (1 : Int32)) (by decide) (i := 1) (by decide) (Nat.le_of_ble_eq_true rfl) (g := (mkF m 27 #[vi p1, vj q2, vz, vj q3, vz, vj q4, vz, vj q5, vz, vj q6, vz, vr b101, vu, vu, vu, vu, vu, vu, vu, vu, vu, vu] [(.int 2), (.int 1), (.ref b109), (.ref b109)])) rfl rfl (hb hby at_27)
 have f115 : Ax Z h114 b109 .int [(.int 0), (.int 2), (.int 0)] := A114
 have N114 := Fr.snoc X114 N111 (lb (lw (lw (lw (lq Z0 E101.1) W103) W105) W107) gq109)
 have K114 := (((K105.wr W107 (Or.inr sz_b101)).ext E109).wr W111 (Or.inr sz_b109)).wr W114 (Or.inr sz_b109)
 refine dS st114 ?_
 show Aq T114 28 #[vi p1, vj q2, vz, vj q3, vz, vj q4, vz, vj q5, vz, vj q6, vz, vr b101, vu, vu, vu, vu, vu, vu, vu, vu, vu, vu] [(.ref b109)]
 refine dU X114 hx hby at_28 rfl ?_
 refine iC X114 hx hby at_29 (z := 2) rfl ?_
 refine iC X114 hx hby at_30 (z := 1) rfl ?_
 obtain ⟨T116, h116, X116, e116, W116, A116, st116⟩ := stoI X114 hx hZ e114 f115 (j := (2 : Int32)) (by decide) (i := 2) (by decide) (Nat.le_of_ble_eq_true rfl) (g := (mkF m 31 #[vi p1, vj q2, vz, vj q3, vz, vj q4, vz, vj q5, vz, vj q6, vz, vr b101, vu, vu, vu, vu, vu, vu, vu, vu, vu, vu] [(.int 1), (.int 2), (.ref b109), (.ref b109)])) rfl rfl (hb hby at_31)
 have f117 := ((((((B101.wr W103).wr W105).wr W107).ext E109).wr W111).wr W114).wr W116
 have f118 := (((f108.ext E109).other W111 ne112).other W114 ne112).other W116 ne112
 have f119 : Ax Z h116 b109 .int [(.int 0), (.int 2), (.int 1)] := A116
 have N116 := Fr.snoc X116 N114 (lb (lw (lw (lw (lq Z0 E101.1) W103) W105) W107) gq109)
 refine dS st116 ?_
 show Aq T116 32 #[vi p1, vj q2, vz, vj q3, vz, vj q4, vz, vj q5, vz, vj q6, vz, vr b101, vu, vu, vu, vu, vu, vu, vu, vu, vu, vu] [(.ref b109)]
 refine aS X116 hx hby at_32 rfl (l' := #[vi p1, vj q2, vz, vj q3, vz, vj q4, vz, vj q5, vz, vj q6, vz, vr b101, vr b109, vu, vu, vu, vu, vu, vu, vu, vu, vu]) rfl ?_
 refine iC X116 hx hby at_34 (z := 3) rfl ?_
 obtain ⟨T120, h120, k120, X120, e120, E120, A120, B120, st120⟩ := newPE X116 hx hZ (hw _ (List.mem_of_getElem? (i := 0) rfl)) e116 (g := (mkF m 35 #[vi p1, vj q2, vz, vj q3, vz, vj q4, vz, vj q5, vz, vj q6, vz, vr b101, vr b109, vu, vu, vu, vu, vu, vu, vu, vu, vu] [(.int 3)])) rfl (hb hby at_35) rfl (by decide) (cap := 3) (by decide) (by decide) (by decide) (by decide) (ad := "[I") (by decide)
 obtain ⟨b120, gq120⟩ : ∃ z, z = h116.size := ⟨_, rfl⟩
 rw [← gq120] at A120 B120 st120
 have sz_b120 := lb (K114.wr W116 (Or.inr sz_b109)).1 gq120
 have f121 : Ax Z h120 b120 .int [(.int 0), (.int 0), (.int 0)] := Ax.new (ty := .int) (i := 3) A120 (by decide)
 refine dS st120 ?_
 show Aq T120 37 #[vi p1, vj q2, vz, vj q3, vz, vj q4, vz, vj q5, vz, vj q6, vz, vr b101, vr b109, vu, vu, vu, vu, vu, vu, vu, vu, vu] [(.ref b120)]
 refine dU X120 hx hby at_37 rfl ?_
 refine iC X120 hx hby at_38 (z := 0) rfl ?_
 refine iC X120 hx hby at_39 (z := 0) rfl ?_
 obtain ⟨T122, h122, X122, e122, W122, A122, st122⟩ := stoI X120 hx hZ e120 f121 (j := (0 : Int32)) (by decide) (i := 0) (by decide) (Nat.le_of_ble_eq_true rfl) (g := (mkF m 40 #[vi p1, vj q2, vz, vj q3, vz, vj q4, vz, vj q5, vz, vj q6, vz, vr b101, vr b109, vu, vu, vu, vu, vu, vu, vu, vu, vu] [(.int 0), (.int 0), (.ref b120), (.ref b120)])) rfl rfl (hb hby at_40)
 have ne123 := nl f117.lt gq120
 have ne124 := nl (((B109.wr W111).wr W114).wr W116).lt gq120
 have f125 : Ax Z h122 b120 .int [(.int 0), (.int 0), (.int 0)] := A122
 refine dS st122 ?_
 show Aq T122 41 #[vi p1, vj q2, vz, vj q3, vz, vj q4, vz, vj q5, vz, vj q6, vz, vr b101, vr b109, vu, vu, vu, vu, vu, vu, vu, vu, vu] [(.ref b120)]
 refine dU X122 hx hby at_41 rfl ?_
 refine iC X122 hx hby at_42 (z := 1) rfl ?_
 refine iC X122 hx hby at_43 (z := 5) rfl ?_
 obtain ⟨T126, h126, X126, e126, W126, A126, st126⟩ := stoI X122 hx hZ e122 f125 (j := (1 : Int32)) (by decide) (i := 1) (by decide) (Nat.le_of_ble_eq_true rfl) (g := (mkF m 44 #[vi p1, vj q2, vz, vj q3, vz, vj q4, vz, vj q5, vz, vj q6, vz, vr b101, vr b109, vu, vu, vu, vu, vu, vu, vu, vu, vu] [(.int 5), (.int 1), (.ref b120), (.ref b120)])) rfl rfl (hb hby at_44)
 have f127 : Ax Z h126 b120 .int [(.int 0), (.int 5), (.int 0)] := A126
 have Z126 := lw (lw (lq (lw (lw (lw Z109 W111) W114) W116) E120.1) W122) W126
 have N126 := Fr.snoc X126 (Fr.snoc X122 N116 (lb (lw (lw (lw Z109 W111) W114) W116) gq120)) (lb (lw (lw (lw Z109 W111) W114) W116) gq120)
 have K126 := (((K114.wr W116 (Or.inr sz_b109)).ext E120).wr W122 (Or.inr sz_b120)).wr W126 (Or.inr sz_b120)
 refine dS st126 ?_
 show Aq T126 45 #[vi p1, vj q2, vz, vj q3, vz, vj q4, vz, vj q5, vz, vj q6, vz, vr b101, vr b109, vu, vu, vu, vu, vu, vu, vu, vu, vu] [(.ref b120)]
 refine dU X126 hx hby at_45 rfl ?_
 refine iC X126 hx hby at_46 (z := 2) rfl ?_
 refine iB X126 hx hby at_47 (z := 7) rfl ?_
 obtain ⟨T128, h128, X128, e128, W128, A128, st128⟩ := stoI X126 hx hZ e126 f127 (j := (2 : Int32)) (by decide) (i := 2) (by decide) (Nat.le_of_ble_eq_true rfl) (g := (mkF m 49 #[vi p1, vj q2, vz, vj q3, vz, vj q4, vz, vj q5, vz, vj q6, vz, vr b101, vr b109, vu, vu, vu, vu, vu, vu, vu, vu, vu] [(.int 7), (.int 2), (.ref b120), (.ref b120)])) rfl rfl (hb hby at_49)
 have f129 := (((f118.ext E120).other W122 ne123).other W126 ne123).other W128 ne123
 have f130 := ((((((B109.wr W111).wr W114).wr W116).ext E120).wr W122).wr W126).wr W128
 have f131 := (((f119.ext E120).other W122 ne124).other W126 ne124).other W128 ne124
 have f132 : Ax Z h128 b120 .int [(.int 0), (.int 5), (.int 7)] := A128
 refine dS st128 ?_
 show Aq T128 50 #[vi p1, vj q2, vz, vj q3, vz, vj q4, vz, vj q5, vz, vj q6, vz, vr b101, vr b109, vu, vu, vu, vu, vu, vu, vu, vu, vu] [(.ref b120)]
 refine aS X128 hx hby at_50 rfl (l' := #[vi p1, vj q2, vz, vj q3, vz, vj q4, vz, vj q5, vz, vj q6, vz, vr b101, vr b109, vr b120, vu, vu, vu, vu, vu, vu, vu, vu]) rfl ?_
 obtain ⟨T133, h133, X133, e133, E133, A133, D133, -, st133⟩ := newO X128 hx hZ hown (tw1 hw) (tw2 hw) (tw3 hw) e128 (g := (mkF m 52 #[vi p1, vj q2, vz, vj q3, vz, vj q4, vz, vj q5, vz, vj q6, vz, vr b101, vr b109, vr b120, vu, vu, vu, vu, vu, vu, vu, vu] [])) rfl (hb hby at_52) (by decide) (by decide)
 obtain ⟨b133, gq133⟩ : ∃ z, z = h128.size := ⟨_, rfl⟩
 rw [← gq133] at A133 D133 st133
 have sz_b133 := lb (K126.wr W128 (Or.inr sz_b120)).1 gq133
 have f134 : Fl11 Z h133 b133 (.int 0) := D133 (Or.inr (tw11 hw)) (ty := .int) (by decide)
 have f135 : Fl12 Z h133 b133 (.int 0) := D133 (Or.inr (tw13 hw)) (ty := .int) (by decide)
 have f136 : Fl21 Z h133 b133 .null := D133 (Or.inr (tw15 hw)) (ty := (.array .int)) (by decide)
 have f137 : Fl22 Z h133 b133 .null := D133 (Or.inr (tw17 hw)) (ty := (.array .int)) (by decide)
 have f138 : Fl23 Z h133 b133 .null := D133 (Or.inr (tw19 hw)) (ty := (.array .int)) (by decide)
 have f139 : Fl24 Z h133 b133 .null := D133 (Or.inr (tw21 hw)) (ty := (.array .int)) (by decide)
 have f140 : Fl25 Z h133 b133 .null := D133 (Or.inr (tw23 hw)) (ty := (.array .int)) (by decide)
 refine dS st133 ?_
 show Aq T133 55 #[vi p1, vj q2, vz, vj q3, vz, vj q4, vz, vj q5, vz, vj q6, vz, vr b101, vr b109, vr b120, vu, vu, vu, vu, vu, vu, vu, vu] [(.ref b133)]
 refine dU X133 hx hby at_55 rfl ?_
 refine iC X133 hx hby at_56 (z := 2) rfl ?_
 refine iC X133 hx hby at_57 (z := 2) rfl ?_
 refine aL X133 hx hby at_58 rfl rfl ?_
 refine aL X133 hx hby at_60 rfl rfl ?_
 refine aL X133 hx hby at_62 rfl rfl ?_
 have ne142 := nl ((((f117.ext E120).wr W122).wr W126).wr W128).lt gq133
 have ne143 := nl f130.lt gq133
 obtain ⟨v141, T141, L141, X141, hQ141, st141⟩ := cI X133 hx hZ hown (tw4 hw) (tw5 hw) (tw3 hw) (tw6 hw) (rm1 l Z a0 hw [] b133 (2 : Int32) (2 : Int32) b101 b109 b120 [(0 : Int32), (1 : Int32), (2 : Int32)] [(0 : Int32), (2 : Int32), (1 : Int32)] 2 2 h133 n0 (lq (lw Z126 W128) E133.1) A133 f134 f135 f136 f137 f138 f139 f140 (f129.ext E133) ne142.symm (f131.ext E133) ne143.symm (lb (lw Z126 W128) gq133) rfl (Nat.le_refl _) rfl (Nat.le_refl _) (by decide) (by decide) own_nf own_ns) (W := 1) e133 (g := (mkF m 64 #[vi p1, vj q2, vz, vj q3, vz, vj q4, vz, vj q5, vz, vj q6, vz, vr b101, vr b109, vr b120, vu, vu, vu, vu, vu, vu, vu, vu] [(.ref b120), (.ref b109), (.ref b101), (.int 2), (.int 2), (.ref b133), (.ref b133)])) rfl hml rfl (argsL := [(.int 2), (.int 2), (.ref b101), (.ref b109), (.ref b120)]) (rest := [(.ref b133)]) (lenOf pd_23 rfl) rfl rfl rfl (hb hby at_64) rfl
 refine Done.far st141 ?_
 obtain ⟨rfl, N141q, K141q, x141, y141_0, y141_1, y141_2, y141_3, y141_4⟩ := hQ141
 have N141 := Fr.app (Fr.snoc X128 N126 (lb (lw (lw (lw Z109 W111) W114) W116) gq120)) N141q
 have ne144 := nl (((B120.wr W122).wr W126).wr W128).lt gq133
 have Kk141 := ((K126.wr W128 (Or.inr sz_b120)).ext E133).trans K141q (allS (Or.inr sz_b133) all0)
 show Aq T141 67 #[vi p1, vj q2, vz, vj q3, vz, vj q4, vz, vj q5, vz, vj q6, vz, vr b101, vr b109, vr b120, vu, vu, vu, vu, vu, vu, vu, vu] [(.ref b133)]
 refine aS X141 hx hby at_67 rfl (l' := #[vi p1, vj q2, vz, vj q3, vz, vj q4, vz, vj q5, vz, vj q6, vz, vr b101, vr b109, vr b120, vr b133, vu, vu, vu, vu, vu, vu, vu]) rfl ?_
 obtain ⟨T145, h145, X145, e145, E145, A145, D145, -, st145⟩ := newO X141 hx hZ hown (tw24 hw) (tw25 hw) (tw26 hw) rfl (g := (mkF m 69 #[vi p1, vj q2, vz, vj q3, vz, vj q4, vz, vj q5, vz, vj q6, vz, vr b101, vr b109, vr b120, vr b133, vu, vu, vu, vu, vu, vu, vu] [])) rfl (hb hby at_69) (by decide) (by decide)
 obtain ⟨b145, gq145⟩ : ∃ z, z = T141.heap.size := ⟨_, rfl⟩
 rw [← gq145] at A145 D145 st145
 have f146 := ((((((f117.ext E120).wr W122).wr W126).wr W128).ext E133).keep K141q).ext E145
 have sz_b145 := lb Kk141.1 gq145
 have Z145 := lq (lq (lq (lw Z126 W128) E133.1) K141q.1) E145.1
 have f147 : Fl13 Z h145 b145 (.long 0) := D145 (Or.inr (tw32 hw)) (ty := .long) (by decide)
 have f148 : Fl14 Z h145 b145 (.long 0) := D145 (Or.inr (tw34 hw)) (ty := .long) (by decide)
 have f149 : Fl15 Z h145 b145 .null := D145 (Or.inr (tw42 hw)) (ty := (.array .boolean)) (by decide)
 have f150 : Fl16 Z h145 b145 .null := D145 (Or.inr (tw50 hw)) (ty := (.array .long)) (by decide)
 have f151 : Fl17 Z h145 b145 .null := D145 (Or.inr (tw52 hw)) (ty := (.array .long)) (by decide)
 have f152 : Fl18 Z h145 b145 (.long 0) := D145 (Or.inl (tw59 hw)) (ty := .long) (by decide)
 refine dS st145 ?_
 show Aq T145 72 #[vi p1, vj q2, vz, vj q3, vz, vj q4, vz, vj q5, vz, vj q6, vz, vr b101, vr b109, vr b120, vr b133, vu, vu, vu, vu, vu, vu, vu] [(.ref b145)]
 refine dU X145 hx hby at_72 rfl ?_
 refine aL X145 hx hby at_73 rfl rfl ?_
 refine jL X145 hx hby at_75 rfl ?_
 refine dS (fun t k => XS.lconst X145.here hx rfl (hb hby at_77) k) ?_
 show Aq T145 78 #[vi p1, vj q2, vz, vj q3, vz, vj q4, vz, vj q5, vz, vj q6, vz, vr b101, vr b109, vr b120, vr b133, vu, vu, vu, vu, vu, vu, vu] [(.long 1), (.long q6), (.ref b133), (.ref b145), (.ref b145)]
 have ne154 := nl (A133.keep K141q).lt gq145
 obtain ⟨v153, T153, L153, X153, hQ153, st153⟩ := cI X145 hx hZ hown (tw27 hw) (tw28 hw) (tw26 hw) (tw29 hw) (pli l Z a0 hw [] b145 b133 q6 (1 : Int64)  h145 n0 Z145 A145 f147 f148 f149 f150 f151 f152 (lb (lq (lq (lw Z126 W128) E133.1) K141q.1) gq145) ((A133.keep K141q).ext E145) (y141_0.ext E145) (y141_1.ext E145) ne154.symm) (W := 1) e145 (g := (mkF m 78 #[vi p1, vj q2, vz, vj q3, vz, vj q4, vz, vj q5, vz, vj q6, vz, vr b101, vr b109, vr b120, vr b133, vu, vu, vu, vu, vu, vu, vu] [(.long 1), (.long q6), (.ref b133), (.ref b145), (.ref b145)])) rfl hml rfl (argsL := [(.ref b133), (.long q6), (.long 1)]) (rest := [(.ref b145)]) (lenOf pd_24 rfl) rfl rfl rfl (hb hby at_78) rfl
 refine Done.far st153 ?_
 obtain ⟨bl_153, bs_153, rfl, N153q, K153q, y153_0, y153_1, y153_2, y153_3, y153_4, y153_5, y153_6, y153_7, z153_8, z153_9, ne153_10⟩ := hQ153
 have sz_bl_153 := lq (Kk141.ext E145).1 z153_8
 have sz_bs_153 := lq (Kk141.ext E145).1 z153_9
 have ne155 := nl ((((((f117.ext E120).wr W122).wr W126).wr W128).ext E133).keep K141q).lt gq145
 have f156 := (((f129.ext E133).keep K141q (ni1 ne142)).ext E145).keep K153q (ni1 ne155)
 have ne157 := nl ((f130.ext E133).keep K141q).lt gq145
 have f158 := (((f131.ext E133).keep K141q (ni1 ne143)).ext E145).keep K153q (ni1 ne157)
 have f159 := ((((((B120.wr W122).wr W126).wr W128).ext E133).keep K141q).ext E145).keep K153q
 have ne160 := nl (((((B120.wr W122).wr W126).wr W128).ext E133).keep K141q).lt gq145
 have f161 := (((f132.ext E133).keep K141q (ni1 ne144)).ext E145).keep K153q (ni1 ne160)
 show Aq T153 81 #[vi p1, vj q2, vz, vj q3, vz, vj q4, vz, vj q5, vz, vj q6, vz, vr b101, vr b109, vr b120, vr b133, vu, vu, vu, vu, vu, vu, vu] [(.ref b145)]
 refine aS X153 hx hby at_81 rfl (l' := #[vi p1, vj q2, vz, vj q3, vz, vj q4, vz, vj q5, vz, vj q6, vz, vr b101, vr b109, vr b120, vr b133, vr b145, vu, vu, vu, vu, vu, vu]) rfl ?_
 refine iC X153 hx hby at_83 (z := 1) rfl ?_
 refine iN X153 hx hby at_84 rfl ?_
 refine iC X153 hx hby at_85 (z := 1) rfl ?_
 refine dS (fun t k => XS.iand X153.here hx rfl (hb hby at_86) rfl k) ?_
 show Aq T153 87 #[vi p1, vj q2, vz, vj q3, vz, vj q4, vz, vj q5, vz, vj q6, vz, vr b101, vr b109, vr b120, vr b133, vr b145, vu, vu, vu, vu, vu, vu] [(.int (p1 &&& (1 : Int32))), (.int 1)]
 refine iA X153 hx hby at_87 ?_
 generalize dx162 : ((1 : Int32) + (p1 &&& (1 : Int32))) = x162
 show Aq T153 88 #[vi p1, vj q2, vz, vj q3, vz, vj q4, vz, vj q5, vz, vj q6, vz, vr b101, vr b109, vr b120, vr b133, vr b145, vu, vu, vu, vu, vu, vu] [(.int x162)]
 refine sL X153 hx hby at_88 (l' := #[vi p1, vj q2, vz, vj q3, vz, vj q4, vz, vj q5, vz, vj q6, vz, vr b101, vr b109, vr b120, vr b133, vr b145, vi x162, vu, vu, vu, vu, vu]) rfl ?_
 refine iC X153 hx hby at_90 (z := 3) rfl ?_
 refine iL X153 hx hby at_91 rfl ?_
 refine iS X153 hx hby at_93 ?_
 generalize dx163 : ((3 : Int32) - x162) = x163
 show Aq T153 94 #[vi p1, vj q2, vz, vj q3, vz, vj q4, vz, vj q5, vz, vj q6, vz, vr b101, vr b109, vr b120, vr b133, vr b145, vi x162, vu, vu, vu, vu, vu] [(.int x163)]
 refine sL X153 hx hby at_94 (l' := #[vi p1, vj q2, vz, vj q3, vz, vj q4, vz, vj q5, vz, vj q6, vz, vr b101, vr b109, vr b120, vr b133, vr b145, vi x162, vi x163, vu, vu, vu, vu]) rfl ?_
 obtain ⟨hr1, hr2, hrx⟩ := own_roads dx162 dx163
 refine aL X153 hx hby at_96 rfl rfl ?_
 refine iL X153 hx hby at_98 rfl ?_
 refine jN X153 hx hby at_100 rfl ?_
 refine jN X153 hx hby at_101 rfl ?_
 have ne165 := nz A145.lt z153_8
 have ne166 := nz A145.lt z153_9
 obtain ⟨v164, T164, L164, X164, hQ164, st164⟩ := cV X153 hx hZ hown (tw53 hw) (tw54 hw) (tw56 hw) (tw55 hw) (tw26 hw) (tw57 hw) (par l Z a0 hw [] b145 x163 q2 q3 bl_153 bs_153 (0 : Int64) (0 : Int64) (0 : Int64) (0 : Int64) (0 : Int64) (0 : Int64) (0 : Int64) q6 (1 : Int64) T153.heap n0 (lq Z145 K153q.1) y153_0 y153_3 y153_4 y153_5 y153_1 y153_2 y153_6 y153_7 (lb (lq (lq (lw Z126 W128) E133.1) K141q.1) gq145) (lq Z145 z153_8) (lq Z145 z153_9) ne165 ne166 ne153_10 hr2) (W := 0) rfl y153_0 (g := (mkF m 102 #[vi p1, vj q2, vz, vj q3, vz, vj q4, vz, vj q5, vz, vj q6, vz, vr b101, vr b109, vr b120, vr b133, vr b145, vi x162, vi x163, vu, vu, vu, vu] [(.long q3), (.long q2), (.int x163), (.ref b145)])) rfl hml rfl (argsL := [(.int x163), (.long q2), (.long q3)]) (rest := []) (lenOf pd_25 rfl) rfl rfl rfl (hb hby at_102) rfl
 refine Done.far st164 ?_
 obtain ⟨rfl, N164q, K164q, y164_0, y164_1, y164_2, y164_3, y164_4, y164_5, y164_6, y164_7⟩ := hQ164
 have Kk164 := ((Kk141.ext E145).trans K153q (allS (Or.inr sz_b145) all0)).trans K164q (allS (Or.inr sz_b145) (allS (Or.inr sz_bl_153) (allS (Or.inr sz_bs_153) all0)))
 show Aq T164 105 #[vi p1, vj q2, vz, vj q3, vz, vj q4, vz, vj q5, vz, vj q6, vz, vr b101, vr b109, vr b120, vr b133, vr b145, vi x162, vi x163, vu, vu, vu, vu] []
 refine aL X164 hx hby at_105 rfl rfl ?_
 refine iL X164 hx hby at_107 rfl ?_
 refine jL X164 hx hby at_109 rfl ?_
 refine jL X164 hx hby at_111 rfl ?_
 obtain ⟨v167, T167, L167, X167, hQ167, st167⟩ := cV X164 hx hZ hown (tw53 hw) (tw54 hw) (tw56 hw) (tw55 hw) (tw26 hw) (tw57 hw) (par l Z a0 hw [] b145 x162 q4 q5 bl_153 bs_153 (0 : Int64) (if x163 = (1 : Int32) then q3 else (0 : Int64)) (if x163 = (1 : Int32) then (0 : Int64) else q3) (0 : Int64) (if x163 = (1 : Int32) then q2 else (0 : Int64)) (if x163 = (1 : Int32) then (0 : Int64) else q2) ((0 : Int64) + q3) q6 (1 : Int64) T164.heap n0 (lq (lq Z145 K153q.1) K164q.1) y164_0 y164_3 y164_4 y164_5 y164_1 y164_2 y164_6 y164_7 (lb (lq (lq (lw Z126 W128) E133.1) K141q.1) gq145) (lq Z145 z153_8) (lq Z145 z153_9) ne165 ne166 ne153_10 hr1) (W := 0) rfl y164_0 (g := (mkF m 113 #[vi p1, vj q2, vz, vj q3, vz, vj q4, vz, vj q5, vz, vj q6, vz, vr b101, vr b109, vr b120, vr b133, vr b145, vi x162, vi x163, vu, vu, vu, vu] [(.long q5), (.long q4), (.int x162), (.ref b145)])) rfl hml rfl (argsL := [(.int x162), (.long q4), (.long q5)]) (rest := []) (lenOf pd_25 rfl) rfl rfl rfl (hb hby at_113) rfl
 refine Done.far st167 ?_
 obtain ⟨rfl, N167q, K167q, y167_0, y167_1, y167_2, y167_3, y167_4, y167_5, y167_6, y167_7⟩ := hQ167
 have Zk167 := lq (lq (lq Z145 K153q.1) K164q.1) K167q.1
 have Kk167 := Kk164.trans K167q (allS (Or.inr sz_b145) (allS (Or.inr sz_bl_153) (allS (Or.inr sz_bs_153) all0)))
 show Aq T167 116 #[vi p1, vj q2, vz, vj q3, vz, vj q4, vz, vj q5, vz, vj q6, vz, vr b101, vr b109, vr b120, vr b133, vr b145, vi x162, vi x163, vu, vu, vu, vu] []
 refine aL X167 hx hby at_116 rfl rfl ?_
 obtain ⟨v168, T168, L168, X168, hQ168, st168⟩ := cV X167 hx hZ hown (tw60 hw) (tw61 hw) (tw63 hw) (tw62 hw) (tw26 hw) (tw64 hw) (pcn l Z a0 hw [] b145 (((0 : Int64) + q3) + q5) T167.heap n0 Zk167 y167_5) (W := 0) rfl y167_0 (g := (mkF m 118 #[vi p1, vj q2, vz, vj q3, vz, vj q4, vz, vj q5, vz, vj q6, vz, vr b101, vr b109, vr b120, vr b133, vr b145, vi x162, vi x163, vu, vu, vu, vu] [(.ref b145)])) rfl hml rfl (argsL := []) (rest := []) (lenOf pd_26 rfl) rfl rfl rfl (hb hby at_118) rfl
 refine Done.far st168 ?_
 obtain ⟨rfl, N168q, K168q⟩ := hQ168
 show Aq T168 121 #[vi p1, vj q2, vz, vj q3, vz, vj q4, vz, vj q5, vz, vj q6, vz, vr b101, vr b109, vr b120, vr b133, vr b145, vi x162, vi x163, vu, vu, vu, vu] [(.long (((0 : Int64) + q3) + q5))]
 refine jN X168 hx hby at_121 rfl ?_
 refine jL X168 hx hby at_122 rfl ?_
 refine dS (fun t k => XS.ladd X168.here hx rfl (hb hby at_124) rfl k) ?_
 show Aq T168 125 #[vi p1, vj q2, vz, vj q3, vz, vj q4, vz, vj q5, vz, vj q6, vz, vr b101, vr b109, vr b120, vr b133, vr b145, vi x162, vi x163, vu, vu, vu, vu] [(.long (q3 + q5)), (.long (((0 : Int64) + q3) + q5))]
 refine dS (fun t k => XS.lcmp X168.here hx rfl (hb hby at_125) rfl k) ?_
 show Aq T168 126 #[vi p1, vj q2, vz, vj q3, vz, vj q4, vz, vj q5, vz, vj q6, vz, vr b101, vr b109, vr b120, vr b133, vr b145, vi x162, vi x163, vu, vu, vu, vu] [(.int (lcmpW (((0 : Int64) + q3) + q5) (q3 + q5)))]
 refine iF X168 hx hby at_126 ((if0 _ _).trans (teq ((lw_eq _ _).mpr (show (((0 : Int64) + q3) + q5) = (q3 + q5) from (by rw [Int64.zero_add])))).2) ?_
 refine iC X168 hx hby at_129 (z := 1) rfl ?_
 refine gO X168 hx hby at_130 (pc' := 134) (H := ?_)
 refine sL X168 hx hby at_134 (l' := #[vi p1, vj q2, vz, vj q3, vz, vj q4, vz, vj q5, vz, vj q6, vz, vr b101, vr b109, vr b120, vr b133, vr b145, vi x162, vi x163, vi 1, vu, vu, vu]) rfl ?_
 refine aL X168 hx hby at_136 rfl rfl ?_
 refine iL X168 hx hby at_138 rfl ?_
 obtain ⟨v169, T169, L169, X169, hQ169, st169⟩ := cV X168 hx hZ hown (tw65 hw) (tw66 hw) (tw68 hw) (tw67 hw) (tw26 hw) (tw69 hw) (pco l Z a0 hw [] b145 x162 bl_153 (0 : Int64) (if x162 = (1 : Int32) then q5 else (if x163 = (1 : Int32) then q3 else (0 : Int64))) (if x162 = (1 : Int32) then (if x163 = (1 : Int32) then (0 : Int64) else q3) else q5) T168.heap n0 (lq Zk167 K168q.1) (y167_3.keep K168q nin0) (y167_6.keep K168q nin0) hr1) (W := 0) rfl (y167_0.keep K168q) (g := (mkF m 140 #[vi p1, vj q2, vz, vj q3, vz, vj q4, vz, vj q5, vz, vj q6, vz, vr b101, vr b109, vr b120, vr b133, vr b145, vi x162, vi x163, vi 1, vu, vu, vu] [(.int x162), (.ref b145)])) rfl hml rfl (argsL := [(.int x162)]) (rest := []) (lenOf pd_27 rfl) rfl rfl rfl (hb hby at_140) rfl
 refine Done.far st169 ?_
 obtain ⟨rfl, N169q, K169q⟩ := hQ169
 have N169 := Fr.app (Fr.app (Fr.app (Fr.app (Fr.app N141 N153q) N164q) N167q) N168q) N169q
 show Aq T169 143 #[vi p1, vj q2, vz, vj q3, vz, vj q4, vz, vj q5, vz, vj q6, vz, vr b101, vr b109, vr b120, vr b133, vr b145, vi x162, vi x163, vi 1, vu, vu, vu] [(.long (if x162 = (1 : Int32) then (if x162 = (1 : Int32) then q5 else (if x163 = (1 : Int32) then q3 else (0 : Int64))) else (if x162 = (1 : Int32) then (if x163 = (1 : Int32) then (0 : Int64) else q3) else q5)))]
 refine jL X169 hx hby at_143 rfl ?_
 refine dS (fun t k => XS.lcmp X169.here hx rfl (hb hby at_145) rfl k) ?_
 show Aq T169 146 #[vi p1, vj q2, vz, vj q3, vz, vj q4, vz, vj q5, vz, vj q6, vz, vr b101, vr b109, vr b120, vr b133, vr b145, vi x162, vi x163, vi 1, vu, vu, vu] [(.int (lcmpW (if x162 = (1 : Int32) then (if x162 = (1 : Int32) then q5 else (if x163 = (1 : Int32) then q3 else (0 : Int64))) else (if x162 = (1 : Int32) then (if x163 = (1 : Int32) then (0 : Int64) else q3) else q5)) q5))]
 refine iF X169 hx hby at_146 ((if0 _ _).trans (teq ((lw_eq _ _).mpr (hrx q2 q3 q4 q5 0).2.1)).2) ?_
 refine iC X169 hx hby at_149 (z := 1) rfl ?_
 refine gO X169 hx hby at_150 (pc' := 154) (H := ?_)
 refine sL X169 hx hby at_154 (l' := #[vi p1, vj q2, vz, vj q3, vz, vj q4, vz, vj q5, vz, vj q6, vz, vr b101, vr b109, vr b120, vr b133, vr b145, vi x162, vi x163, vi 1, vi 1, vu, vu]) rfl ?_
 refine aL X169 hx hby at_156 rfl rfl ?_
 refine iL X169 hx hby at_158 rfl ?_
 obtain ⟨v170, T170, L170, X170, hQ170, st170⟩ := cV X169 hx hZ hown (tw65 hw) (tw66 hw) (tw68 hw) (tw67 hw) (tw26 hw) (tw69 hw) (pco l Z a0 hw [] b145 x163 bl_153 (0 : Int64) (if x162 = (1 : Int32) then q5 else (if x163 = (1 : Int32) then q3 else (0 : Int64))) (if x162 = (1 : Int32) then (if x163 = (1 : Int32) then (0 : Int64) else q3) else q5) T169.heap n0 (lq (lq Zk167 K168q.1) K169q.1) ((y167_3.keep K168q nin0).keep K169q nin0) ((y167_6.keep K168q nin0).keep K169q nin0) hr2) (W := 0) rfl ((y167_0.keep K168q).keep K169q) (g := (mkF m 160 #[vi p1, vj q2, vz, vj q3, vz, vj q4, vz, vj q5, vz, vj q6, vz, vr b101, vr b109, vr b120, vr b133, vr b145, vi x162, vi x163, vi 1, vi 1, vu, vu] [(.int x163), (.ref b145)])) rfl hml rfl (argsL := [(.int x163)]) (rest := []) (lenOf pd_27 rfl) rfl rfl rfl (hb hby at_160) rfl
 refine Done.far st170 ?_
 obtain ⟨rfl, N170q, K170q⟩ := hQ170
 have Zk170 := lq (lq (lq Zk167 K168q.1) K169q.1) K170q.1
 show Aq T170 163 #[vi p1, vj q2, vz, vj q3, vz, vj q4, vz, vj q5, vz, vj q6, vz, vr b101, vr b109, vr b120, vr b133, vr b145, vi x162, vi x163, vi 1, vi 1, vu, vu] [(.long (if x163 = (1 : Int32) then (if x162 = (1 : Int32) then q5 else (if x163 = (1 : Int32) then q3 else (0 : Int64))) else (if x162 = (1 : Int32) then (if x163 = (1 : Int32) then (0 : Int64) else q3) else q5)))]
 refine jN X170 hx hby at_163 rfl ?_
 refine dS (fun t k => XS.lcmp X170.here hx rfl (hb hby at_164) rfl k) ?_
 show Aq T170 165 #[vi p1, vj q2, vz, vj q3, vz, vj q4, vz, vj q5, vz, vj q6, vz, vr b101, vr b109, vr b120, vr b133, vr b145, vi x162, vi x163, vi 1, vi 1, vu, vu] [(.int (lcmpW (if x163 = (1 : Int32) then (if x162 = (1 : Int32) then q5 else (if x163 = (1 : Int32) then q3 else (0 : Int64))) else (if x162 = (1 : Int32) then (if x163 = (1 : Int32) then (0 : Int64) else q3) else q5)) q3))]
 refine iF X170 hx hby at_165 ((if0 _ _).trans (teq ((lw_eq _ _).mpr (hrx q2 q3 q4 q5 0).2.2)).2) ?_
 refine iC X170 hx hby at_168 (z := 1) rfl ?_
 refine gO X170 hx hby at_169 (pc' := 173) (H := ?_)
 refine sL X170 hx hby at_173 (l' := #[vi p1, vj q2, vz, vj q3, vz, vj q4, vz, vj q5, vz, vj q6, vz, vr b101, vr b109, vr b120, vr b133, vr b145, vi x162, vi x163, vi 1, vi 1, vi 1, vu]) rfl ?_
 refine aL X170 hx hby at_175 rfl rfl ?_
 refine iL X170 hx hby at_177 rfl ?_
 refine dS (fun t k => XS.lconst X170.here hx rfl (hb hby at_179) k) ?_
 show Aq T170 180 #[vi p1, vj q2, vz, vj q3, vz, vj q4, vz, vj q5, vz, vj q6, vz, vr b101, vr b109, vr b120, vr b133, vr b145, vi x162, vi x163, vi 1, vi 1, vi 1, vu] [(.long 0), (.int x162), (.ref b145)]
 obtain ⟨v171, T171, L171, X171, hQ171, st171⟩ := cV X170 hx hZ hown (tw70 hw) (tw71 hw) (tw73 hw) (tw72 hw) (tw26 hw) (tw74 hw) (ppo l Z a0 hw [] b145 x162 (0 : Int64) h0 bs_153 (0 : Int64) (if x162 = (1 : Int32) then q4 else (if x163 = (1 : Int32) then q2 else (0 : Int64))) (if x162 = (1 : Int32) then (if x163 = (1 : Int32) then (0 : Int64) else q2) else q4) q6 q4 T170.heap n0 Zk170 rfl (((Kk167.trans K168q all0).trans K169q all0).trans K170q all0) ST (((y167_4.keep K168q nin0).keep K169q nin0).keep K170q nin0) (((y167_7.keep K168q nin0).keep K169q nin0).keep K170q nin0) (((y167_1.keep K168q nin0).keep K169q nin0).keep K170q nin0) (((y167_2.keep K168q nin0).keep K169q nin0).keep K170q nin0) hr1 (hrx q2 q3 q4 q5 0).1) (W := 0) rfl (((y167_0.keep K168q).keep K169q).keep K170q) (g := (mkF m 180 #[vi p1, vj q2, vz, vj q3, vz, vj q4, vz, vj q5, vz, vj q6, vz, vr b101, vr b109, vr b120, vr b133, vr b145, vi x162, vi x163, vi 1, vi 1, vi 1, vu] [(.long 0), (.int x162), (.ref b145)])) rfl hml rfl (argsL := [(.int x162), (.long 0)]) (rest := []) (lenOf pd_28 rfl) rfl rfl rfl (hb hby at_180) rfl
 refine Done.far st171 ?_
 obtain ⟨rb_171, nb_171, nm_171, db_171, dm_171, rfl, N171q, K171q, y171_0, y171_1, y171_2, y171_3, y171_4, y171_5, y171_6, y171_7, y171_8, y171_9, y171_10, y171_11, y171_12⟩ := hQ171
 have f172 := (((y167_1.keep K168q nin0).keep K169q nin0).keep K170q nin0).keep K171q nin0
 have f173 := (((y167_2.keep K168q nin0).keep K169q nin0).keep K170q nin0).keep K171q nin0
 have f174 := (((y167_3.keep K168q nin0).keep K169q nin0).keep K170q nin0).keep K171q nin0
 have f175 := (((y167_4.keep K168q nin0).keep K169q nin0).keep K170q nin0).keep K171q nin0
 have f176 := (((y167_5.keep K168q nin0).keep K169q nin0).keep K170q nin0).keep K171q nin0
 have f177 := (((y167_6.keep K168q nin0).keep K169q nin0).keep K170q nin0).keep K171q nin0
 have f178 := (((y167_7.keep K168q nin0).keep K169q nin0).keep K170q nin0).keep K171q nin0
 have Kk171 := (((Kk167.trans K168q all0).trans K169q all0).trans K170q all0).trans K171q all0
 show Aq T171 183 #[vi p1, vj q2, vz, vj q3, vz, vj q4, vz, vj q5, vz, vj q6, vz, vr b101, vr b109, vr b120, vr b133, vr b145, vi x162, vi x163, vi 1, vi 1, vi 1, vu] [(.ref rb_171)]
 refine jL X171 hx hby at_183 rfl ?_
 obtain ⟨v179, T179, L179, X179, hQ179, st179⟩ := cS X171 hx hZ hown (tw247 hw) (tw248 hw) (tw77 hw) (tw249 hw) (of1 l Z a0 hw [] q4 h0 T171.heap n0 (lq Zk170 K171q.1) Kk171 ST) (W := 1) rfl (g := (mkF m 185 #[vi p1, vj q2, vz, vj q3, vz, vj q4, vz, vj q5, vz, vj q6, vz, vr b101, vr b109, vr b120, vr b133, vr b145, vi x162, vi x163, vi 1, vi 1, vi 1, vu] [(.long q4), (.ref rb_171)])) rfl hml rfl (argsL := [(.long q4)]) (rest := [(.ref rb_171)]) (lenOf pd_29 rfl) rfl rfl rfl (hb hby at_185) rfl
 refine dS st179 ?_
 obtain ⟨rb_179, nb_179, nm_179, db_179, dm_179, rfl, N179q, K179q, y179_0, y179_1, y179_2, y179_3, y179_4, y179_5, y179_6, y179_7, y179_8, y179_9, y179_10, y179_11, y179_12⟩ := hQ179
 show Aq T179 188 #[vi p1, vj q2, vz, vj q3, vz, vj q4, vz, vj q5, vz, vj q6, vz, vr b101, vr b109, vr b120, vr b133, vr b145, vi x162, vi x163, vi 1, vi 1, vi 1, vu] [(.ref rb_179), (.ref rb_171)]
 obtain ⟨v180, T180, L180, X180, hQ180, st180⟩ := cV X179 hx hZ hown (tw251 hw) (tw252 hw) (tw254 hw) (tw253 hw) (tw77 hw) (tw255 hw) (req l Z a0 hw [] rb_171 rb_179 nb_171 nm_171 db_171 dm_171 nb_179 nm_179 db_179 dm_179 (SG q4) (ML q4) T179.heap n0 (lq (lq Zk170 K171q.1) K179q.1) (y171_0.keep K179q) (y171_1.keep K179q nin0) (y171_2.keep K179q nin0) (y171_3.keep K179q) (y171_4.keep K179q nin0) (y171_5.keep K179q nin0) (y171_6.keep K179q) (y171_7.keep K179q nin0) (y171_8.keep K179q) (y171_9.keep K179q nin0) (y171_10.keep K179q nin0) (y171_11.keep K179q) (y171_12.keep K179q nin0) y179_0 y179_1 y179_2 y179_3 y179_4 y179_5 y179_6 y179_7 y179_8 y179_9 y179_10 y179_11 y179_12 (own_sh q4)) (W := 0) rfl (y171_0.keep K179q) (g := (mkF m 188 #[vi p1, vj q2, vz, vj q3, vz, vj q4, vz, vj q5, vz, vj q6, vz, vr b101, vr b109, vr b120, vr b133, vr b145, vi x162, vi x163, vi 1, vi 1, vi 1, vu] [(.ref rb_179), (.ref rb_171)])) rfl hml rfl (argsL := [(.ref rb_179)]) (rest := []) (lenOf pd_21 rfl) rfl rfl rfl (hb hby at_188) rfl
 refine Done.far st180 ?_
 obtain ⟨rfl, N180q, K180q⟩ := hQ180
 have Zk180 := lq (lq (lq Zk170 K171q.1) K179q.1) K180q.1
 show Aq T180 191 #[vi p1, vj q2, vz, vj q3, vz, vj q4, vz, vj q5, vz, vj q6, vz, vr b101, vr b109, vr b120, vr b133, vr b145, vi x162, vi x163, vi 1, vi 1, vi 1, vu] [(.int 1)]
 refine sL X180 hx hby at_191 (l' := #[vi p1, vj q2, vz, vj q3, vz, vj q4, vz, vj q5, vz, vj q6, vz, vr b101, vr b109, vr b120, vr b133, vr b145, vi x162, vi x163, vi 1, vi 1, vi 1, vi 1]) rfl ?_
 refine iL X180 hx hby at_193 rfl ?_
 refine iF X180 hx hby at_195 ((if0 _ _).trans (feq (by decide)).1) ?_
 refine iL X180 hx hby at_198 rfl ?_
 refine iF X180 hx hby at_200 ((if0 _ _).trans (feq (by decide)).1) ?_
 refine iL X180 hx hby at_203 rfl ?_
 refine iF X180 hx hby at_205 ((if0 _ _).trans (feq (by decide)).1) ?_
 refine iL X180 hx hby at_208 rfl ?_
 refine iF X180 hx hby at_210 ((if0 _ _).trans (feq (by decide)).1) ?_
 refine iC X180 hx hby at_213 (z := 1) rfl ?_
 refine gO X180 hx hby at_214 (pc' := 218) (H := ?_)
 exact Done.narr X180 hx hlk hret (by simp) (hb hby at_218) (by decide) (by decide) ⟨rfl, (Fr.app (Fr.app (Fr.app (Fr.app N169 N170q) N171q) N179q) N180q)⟩
theorem comes_1 {Post : Tables → Env → Array Value → State → Outcome → State → Prop} (hpost : ∀ tb e args s v u, (limb_1_1.after args s (.returned v) u = true ∧ limb_1_2.after args s (.returned v) u = true ∧ True) → FrameEnd s (.returned v) u (Jvm.fieldLocs frame_1_writes args s ++ Jvm.arrayLocs frame_1_arrays args s ++ Jvm.staticLocs frame_1_statics s) 80 320 → Post tb e args s (.returned v) u) :
  ArmFor flags0 classFile x code maxLocals ret World_1 tables_1 room_1 Calls_1 rest_1 Pre_1 Post := by
 intro l hfl _ _ p e ha hc hk s m args below hf hA hF happ hP
 obtain ⟨hcalls, hrest, hpre⟩ := hP
 obtain ⟨-, -, -, hnamed, -, -, -, hat⟩ := (Spec.applies_iff hf).mp happ
 obtain ⟨hg, hn⟩ := and_e (Cond.before_iff.mp (show (Jvm.Cond.and given_1 narrow_1).before args s = true from hpre))
 obtain ⟨hcnt, g0⟩ := and_e hg
 obtain ⟨u0, g1⟩ := and_e g0
 obtain ⟨u1, g2⟩ := and_e g1
 obtain ⟨u2, g3⟩ := and_e g2
 obtain ⟨u3, g4⟩ := and_e g3
 obtain ⟨u4, g5⟩ := and_e g4
 have u5 := g5
 obtain ⟨w0, w1, w2, w3, w4, w5, rfl⟩ : ∃ w0 w1 w2 w3 w4 w5 : Value, args = #[w0, w1, w2, w3, w4, w5] := by
  have hs : args.size = 6 := by simpa [Cond.value, given_1] using hcnt
  obtain ⟨L⟩ := args
  match L, hs with
  | [w0, w1, w2, w3, w4, w5], _ => exact ⟨w0, w1, w2, w3, w4, w5, rfl⟩
 have hw := fun d (hd : d ∈ tables_1) => atoms_spec (ws := Jvm.Cond.code x code maxLocals ret :: tables_1) hat d (List.mem_cons_of_mem _ hd)
 have hfit : Fit s := fun {y c} hc i hi => by
  obtain ⟨ha, rfl⟩ := Array.getElem?_eq_some_iff.mp hc
  have q := List.all_eq_true.mp ((Array.all_eq_true_iff_forall_mem.mp hF) _ (Array.getElem_mem ha)) i (List.mem_range.mpr hi)
  simpa [Array.getElem?_eq_getElem hi] using q
 obtain ⟨i0, ei0⟩ := is_v u0
 obtain rfl : w0 = (.int i0) := Option.some.inj ei0
 obtain ⟨i1, ei1⟩ := isL_v u1
 obtain rfl : w1 = (.long i1) := Option.some.inj ei1
 obtain ⟨i2, ei2⟩ := isL_v u2
 obtain rfl : w2 = (.long i2) := Option.some.inj ei2
 obtain ⟨i3, ei3⟩ := isL_v u3
 obtain rfl : w3 = (.long i3) := Option.some.inj ei3
 obtain ⟨i4, ei4⟩ := isL_v u4
 obtain rfl : w4 = (.long i4) := Option.some.inj ei4
 obtain ⟨i5, ei5⟩ := isL_v u5
 obtain rfl : w5 = (.long i5) := Option.some.inj ei5
 obtain ⟨hsets, hown0⟩ := atoms_of _ (rest_1_c_eq ▸ (show rest_1_c.before _ s = true from hrest))
 obtain ⟨n, o, h1, h2, h3, _, L, rfl, ⟨rfl, N⟩, hq⟩ := rm0 l s _ hw tables_1 i0 i1 i2 i3 i4 i5 s.heap s.heap.size (Nat.le_refl _) (own_stat hsets) p e ha hc hk s m _ below hf ((Spec.applies_iff_loose hf).mp happ).1 ⟨rfl, State.Warmed39.refl s, rfl⟩ trivial
 refine ⟨n, _, h1, h2, h3, hpost _ _ _ _ _ _ ⟨Cond.after_iff.mpr rfl, Cond.after_iff.mpr (eq_i res_at (Term.int_eval (1)) rfl), trivial⟩ ⟨hq.1, hq.2.1, (hq.2.2.sift fun y hy => Or.inr (N y hy)).mono (by decide) (by decide)⟩⟩
theorem main_1_1 : Claimed_1_1 := comes_1 fun _ _ _ _ _ _ h hF => ⟨h.1, hF⟩
theorem main_1_2 : Claimed_1_2 := comes_1 fun _ _ _ _ _ _ h hF => ⟨h.2.1, hF⟩
end Jvm.Pilot.@@N@@
namespace Jvm.Pilot.@@N@@
open Jvm Jvm.ClassFile Sem Op Lib Jvm.Free Jvm.Stand Jvm.Pilot.@@N@@.Jvm.D
/-! MADE BY PROGRAM (witnessworld.py) out of the Statement's table words and the real class files: 25 classes; the members and pool entries that the words name. The judged class is class 1, her method 1. -/
namespace start1
open Jvm.ClassFile
def u (s : String) : CpInfo := .utf8 (stringToUtf16 s)
/-- a pool by its gaps: so many unusable entries, then the entry; so many at the end -/
def gap : Nat → List CpInfo → List CpInfo
  | 0, r => r
  | n + 1, r => .unusable :: gap n r
def poolList (es : List (Nat × CpInfo)) (last : Nat) : List CpInfo := es.foldr (fun e r => gap e.1 (e.2 :: r)) (gap last [])
def pool (es : List (Nat × CpInfo)) (last : Nat) : Array CpInfo := ⟨poolList es last⟩
def fileOf (pool : Array CpInfo) (this : Nat) (attrs : Array Attribute := #[]) (ms : Array MethodInfo := #[]) (fl : Nat := 33) (sup : Nat := 0) (ifs : Array Nat := #[]) (fds : Array FieldInfo := #[]) : ClassFile where
  minorVersion := 0
  majorVersion := 65
  constantPool := pool
  accessFlags := fl
  thisClass := this
  superClass := sup
  interfaces := ifs
  fields := fds
  methods := ms
  attributes := attrs
def plain (name : String) (sup : Option ClassId) : Class where
  name := name
  kind := .ordinary
  loader := none
  accessFlags := 33
  super := sup
  interfaces := #[]
  cf := none
  fields := #[]
  methods := #[]
  instanceTypes := #[]
  staticTypes := #[]
  resolved := #[]
  callSites := []
  init := .initialized
  statics := none
  mirror := none

def pool0 : Array CpInfo := pool [(5, u "<init>"), (0, u "()V"), (1, .class_ 10), (1, u "java/lang/Object"), (85, u "clone"), (0, u "()Ljava/lang/Object;")] 26

def k0c0 : Code := { maxStack := 0, maxLocals := 1, code := object_method_1_code, exceptionTable := #[], attributes := #[] }
def k0m0 : Method := { name := "<init>", desc := "()V", sig := { parameters := [], returnType := none }, accessFlags := 1, code := some k0c0 }
def k0m1 : Method := { name := "clone", desc := "()Ljava/lang/Object;", sig := { parameters := [], returnType := some (.object "java/lang/Object") }, accessFlags := 260, code := none }
/-- java/lang/Object -/
def k0 : Class := { plain "java/lang/Object" none with
  accessFlags := 33
  interfaces := #[]
  cf := some (fileOf pool0 8 #[] #[{ accessFlags := 1, nameIndex := 5, descriptorIndex := 6, attributes := #[] }, { accessFlags := 260, nameIndex := 96, descriptorIndex := 97, attributes := #[] }] 33 0 #[] #[])
  fields := #[]
  methods := #[k0m0, k0m1]
  instanceTypes := #[]
  staticTypes := #[]
  resolved := Array.replicate 124 none
  statics := none }

def pool1 : Array CpInfo := pool [(2, .class_ 4), (1, u "java/lang/Object"), (0, u "<init>"), (0, u "()V"), (0, .class_ 8), (0, u "com/example/dendrocover/dendrocover/Network"), (0, .methodref 7 10), (0, .nameAndType 5 11), (0, u "(II[I[I[I)V"), (0, .class_ 13), (0, u "com/example/dendrocover/dendrocover/Placement"), (0, .methodref 12 15), (0, .nameAndType 5 16), (0, u "(Lcom/example/dendrocover/dendrocover/Network;JJ)V"), (0, .methodref 12 18), (0, .nameAndType 19 20), (0, u "addRow"), (0, u "(IJJ)V"), (0, .methodref 12 22), (0, .nameAndType 23 24), (0, u "count"), (0, u "()J"), (0, .methodref 12 26), (0, .nameAndType 27 28), (0, u "centersOn"), (0, u "(I)J"), (0, .methodref 12 30), (0, .nameAndType 31 32), (0, u "position"), (0, u "(IJ)Lcom/example/dendrocover/dendrocover/Rational;"), (0, .methodref 34 35), (0, .class_ 36), (0, .nameAndType 37 38), (0, u "com/example/dendrocover/dendrocover/Rational"), (0, u "of"), (0, u "(J)Lcom/example/dendrocover/dendrocover/Rational;"), (0, .methodref 34 40), (0, .nameAndType 41 42), (0, u "equals"), (0, u "(Ljava/lang/Object;)Z"), (0, .class_ 44), (0, u "com/example/dendrocover/dendrocover/PlacementAddRowPinLaw"), (2, u "law"), (0, u "(IJJJJJ)Z")] 5

def k1m0 : Method := { name := "<init>", desc := "()V", sig := { parameters := [], returnType := none }, accessFlags := 1, code := none }
def k1c1 : Code := { maxStack := 7, maxLocals := 22, code := code, exceptionTable := #[], attributes := #[] }
def k1m1 : Method := { name := "law", desc := "(IJJJJJ)Z", sig := { parameters := [.int, .long, .long, .long, .long, .long], returnType := some .boolean }, accessFlags := 9, code := some k1c1 }
/-- com/example/dendrocover/dendrocover/PlacementAddRowPinLaw -/
def k1 : Class := { plain "com/example/dendrocover/dendrocover/PlacementAddRowPinLaw" (some 0) with
  accessFlags := 49
  interfaces := #[]
  cf := some (fileOf pool1 43 #[] #[{ accessFlags := 1, nameIndex := 5, descriptorIndex := 6, attributes := #[] }, { accessFlags := 9, nameIndex := 47, descriptorIndex := 48, attributes := #[] }] 49 2 #[] #[])
  fields := #[]
  methods := #[k1m0, k1m1]
  instanceTypes := #[]
  staticTypes := #[]
  resolved := Array.replicate 54 none
  statics := none }

def pool2 : Array CpInfo := pool [(1, .methodref 2 3), (0, .class_ 4), (0, .nameAndType 5 6), (0, u "java/lang/Object"), (0, u "<init>"), (0, u "()V"), (0, .fieldref 8 9), (0, .class_ 10), (0, .nameAndType 11 12), (0, u "com/example/dendrocover/dendrocover/Network"), (0, u "vertexCount"), (0, u "I"), (0, .fieldref 8 14), (0, .nameAndType 15 12), (0, u "roadCount"), (0, .fieldref 8 17), (0, .nameAndType 18 19), (0, u "firstEnd"), (0, u "[I"), (0, .fieldref 8 21), (0, .nameAndType 22 19), (0, u "secondEnd"), (0, .fieldref 8 24), (0, .nameAndType 25 19), (0, u "length"), (0, .fieldref 8 27), (0, .nameAndType 28 19), (0, u "incidenceStart"), (0, .fieldref 8 30), (0, .nameAndType 31 19), (0, u "incident"), (0, u "(II[I[I[I)V"), (4, u "()I")] 9

def k2c0 : Code := { maxStack := 5, maxLocals := 8, code := prog_20_method_1_code, exceptionTable := #[], attributes := #[] }
def k2m0 : Method := { name := "<init>", desc := "(II[I[I[I)V", sig := { parameters := [.int, .int, (.array .int), (.array .int), (.array .int)], returnType := none }, accessFlags := 0, code := some k2c0 }
def k2c1 : Code := { maxStack := 1, maxLocals := 1, code := prog_20_method_2_code, exceptionTable := #[], attributes := #[] }
def k2m1 : Method := { name := "vertexCount", desc := "()I", sig := { parameters := [], returnType := some .int }, accessFlags := 0, code := some k2c1 }
def k2c2 : Code := { maxStack := 1, maxLocals := 1, code := prog_20_method_3_code, exceptionTable := #[], attributes := #[] }
def k2m2 : Method := { name := "roadCount", desc := "()I", sig := { parameters := [], returnType := some .int }, accessFlags := 0, code := some k2c2 }
/-- com/example/dendrocover/dendrocover/Network -/
def k2 : Class := { plain "com/example/dendrocover/dendrocover/Network" (some 0) with
  accessFlags := 48
  interfaces := #[]
  cf := some (fileOf pool2 8 #[] #[{ accessFlags := 0, nameIndex := 5, descriptorIndex := 32, attributes := #[] }, { accessFlags := 0, nameIndex := 11, descriptorIndex := 37, attributes := #[] }, { accessFlags := 0, nameIndex := 15, descriptorIndex := 37, attributes := #[] }] 48 2 #[] #[{ accessFlags := 18, nameIndex := 11, descriptorIndex := 12, attributes := #[] }, { accessFlags := 18, nameIndex := 15, descriptorIndex := 12, attributes := #[] }, { accessFlags := 18, nameIndex := 18, descriptorIndex := 19, attributes := #[] }, { accessFlags := 18, nameIndex := 22, descriptorIndex := 19, attributes := #[] }, { accessFlags := 18, nameIndex := 25, descriptorIndex := 19, attributes := #[] }, { accessFlags := 18, nameIndex := 28, descriptorIndex := 19, attributes := #[] }, { accessFlags := 18, nameIndex := 31, descriptorIndex := 19, attributes := #[] }])
  fields := #[{ name := "vertexCount", type := .int, accessFlags := 18, slot := 0, constantValue := 0 }, { name := "roadCount", type := .int, accessFlags := 18, slot := 1, constantValue := 0 }, { name := "firstEnd", type := (.array .int), accessFlags := 18, slot := 2, constantValue := 0 }, { name := "secondEnd", type := (.array .int), accessFlags := 18, slot := 3, constantValue := 0 }, { name := "length", type := (.array .int), accessFlags := 18, slot := 4, constantValue := 0 }, { name := "incidenceStart", type := (.array .int), accessFlags := 18, slot := 5, constantValue := 0 }, { name := "incident", type := (.array .int), accessFlags := 18, slot := 6, constantValue := 0 }]
  methods := #[k2m0, k2m1, k2m2]
  instanceTypes := #[.int, .int, (.array .int), (.array .int), (.array .int), (.array .int), (.array .int)]
  staticTypes := #[]
  resolved := Array.replicate 47 none
  statics := none }

def pool3 : Array CpInfo := pool [(1, .methodref 2 3), (0, .class_ 4), (0, .nameAndType 5 6), (0, u "java/lang/Object"), (0, u "<init>"), (0, u "()V"), (0, .fieldref 8 9), (0, .class_ 10), (0, .nameAndType 11 12), (0, u "com/example/dendrocover/dendrocover/Placement"), (0, u "spacing"), (0, u "J"), (0, .fieldref 8 14), (0, .nameAndType 15 12), (0, u "unitsPerLength"), (0, .methodref 17 18), (0, .class_ 19), (0, .nameAndType 20 21), (0, u "com/example/dendrocover/dendrocover/Network"), (0, u "vertexCount"), (0, u "()I"), (0, .fieldref 8 23), (0, .nameAndType 24 25), (0, u "atVertex"), (0, u "[Z"), (0, .methodref 17 27), (0, .nameAndType 28 21), (0, u "roadCount"), (0, .fieldref 8 30), (0, .nameAndType 31 32), (0, u "rowLength"), (0, u "[J"), (0, .fieldref 8 34), (0, .nameAndType 35 32), (0, u "rowStart"), (0, .fieldref 8 37), (0, .nameAndType 38 12), (0, u "count"), (6, u "addRow"), (0, u "(IJJ)V"), (0, .methodref 48 49), (0, .class_ 50), (0, .nameAndType 51 52), (0, u "com/example/dendrocover/dendrocover/Rational"), (0, u "of"), (0, u "(JJ)Lcom/example/dendrocover/dendrocover/Rational;"), (0, u "(Lcom/example/dendrocover/dendrocover/Network;JJ)V"), (5, u "()J"), (2, u "centersOn"), (0, u "(I)J"), (0, u "position"), (0, u "(IJ)Lcom/example/dendrocover/dendrocover/Rational;")] 2

def k3c0 : Code := { maxStack := 3, maxLocals := 6, code := prog_27_method_1_code, exceptionTable := #[], attributes := #[] }
def k3m0 : Method := { name := "<init>", desc := "(Lcom/example/dendrocover/dendrocover/Network;JJ)V", sig := { parameters := [(.object "com/example/dendrocover/dendrocover/Network"), .long, .long], returnType := none }, accessFlags := 0, code := some k3c0 }
def k3c1 : Code := { maxStack := 5, maxLocals := 6, code := prog_27_method_3_code, exceptionTable := #[], attributes := #[] }
def k3m1 : Method := { name := "addRow", desc := "(IJJ)V", sig := { parameters := [.int, .long, .long], returnType := none }, accessFlags := 0, code := some k3c1 }
def k3c2 : Code := { maxStack := 2, maxLocals := 1, code := prog_27_method_5_code, exceptionTable := #[], attributes := #[] }
def k3m2 : Method := { name := "count", desc := "()J", sig := { parameters := [], returnType := some .long }, accessFlags := 0, code := some k3c2 }
def k3c3 : Code := { maxStack := 2, maxLocals := 2, code := prog_27_method_7_code, exceptionTable := #[], attributes := #[] }
def k3m3 : Method := { name := "centersOn", desc := "(I)J", sig := { parameters := [.int], returnType := some .long }, accessFlags := 0, code := some k3c3 }
def k3c4 : Code := { maxStack := 6, maxLocals := 4, code := prog_27_method_8_code, exceptionTable := #[], attributes := #[] }
def k3m4 : Method := { name := "position", desc := "(IJ)Lcom/example/dendrocover/dendrocover/Rational;", sig := { parameters := [.int, .long], returnType := some (.object "com/example/dendrocover/dendrocover/Rational") }, accessFlags := 0, code := some k3c4 }
/-- com/example/dendrocover/dendrocover/Placement -/
def k3 : Class := { plain "com/example/dendrocover/dendrocover/Placement" (some 0) with
  accessFlags := 48
  interfaces := #[]
  cf := some (fileOf pool3 8 #[] #[{ accessFlags := 0, nameIndex := 5, descriptorIndex := 53, attributes := #[] }, { accessFlags := 0, nameIndex := 45, descriptorIndex := 46, attributes := #[] }, { accessFlags := 0, nameIndex := 38, descriptorIndex := 59, attributes := #[] }, { accessFlags := 0, nameIndex := 62, descriptorIndex := 63, attributes := #[] }, { accessFlags := 0, nameIndex := 64, descriptorIndex := 65, attributes := #[] }] 48 2 #[] #[{ accessFlags := 18, nameIndex := 11, descriptorIndex := 12, attributes := #[] }, { accessFlags := 18, nameIndex := 15, descriptorIndex := 12, attributes := #[] }, { accessFlags := 18, nameIndex := 24, descriptorIndex := 25, attributes := #[] }, { accessFlags := 18, nameIndex := 31, descriptorIndex := 32, attributes := #[] }, { accessFlags := 18, nameIndex := 35, descriptorIndex := 32, attributes := #[] }, { accessFlags := 2, nameIndex := 38, descriptorIndex := 12, attributes := #[] }])
  fields := #[{ name := "spacing", type := .long, accessFlags := 18, slot := 0, constantValue := 0 }, { name := "unitsPerLength", type := .long, accessFlags := 18, slot := 1, constantValue := 0 }, { name := "atVertex", type := (.array .boolean), accessFlags := 18, slot := 2, constantValue := 0 }, { name := "rowLength", type := (.array .long), accessFlags := 18, slot := 3, constantValue := 0 }, { name := "rowStart", type := (.array .long), accessFlags := 18, slot := 4, constantValue := 0 }, { name := "count", type := .long, accessFlags := 2, slot := 5, constantValue := 0 }]
  methods := #[k3m0, k3m1, k3m2, k3m3, k3m4]
  instanceTypes := #[.long, .long, (.array .boolean), (.array .long), (.array .long), .long]
  staticTypes := #[]
  resolved := Array.replicate 68 none
  statics := none }

def pool4 : Array CpInfo := pool [(1, .class_ 2), (0, u "java/lang/Comparable"), (0, .class_ 4), (0, u "java/lang/Object")] 7

/-- java/lang/Comparable -/
def k4 : Class := { plain "java/lang/Comparable" (some 0) with
  accessFlags := 1537
  interfaces := #[]
  cf := some (fileOf pool4 1 #[] #[] 1537 3 #[] #[])
  fields := #[]
  methods := #[]
  instanceTypes := #[]
  staticTypes := #[]
  resolved := Array.replicate 12 none
  statics := none }

def pool5 : Array CpInfo := pool [(1, .methodref 2 3), (0, .class_ 4), (0, .nameAndType 5 6), (0, u "java/lang/Object"), (0, u "<init>"), (0, u "()V"), (0, .fieldref 8 9), (0, .class_ 10), (0, .nameAndType 11 12), (0, u "com/example/dendrocover/dendrocover/Rational"), (0, u "numerator"), (0, u "Ljava/math/BigInteger;"), (0, .fieldref 8 14), (0, .nameAndType 15 12), (0, u "denominator"), (0, .methodref 17 18), (0, .class_ 19), (0, .nameAndType 20 21), (0, u "java/math/BigInteger"), (0, u "valueOf"), (0, u "(J)Ljava/math/BigInteger;"), (0, .fieldref 17 23), (0, .nameAndType 24 12), (0, u "ONE"), (0, .methodref 8 26), (0, .nameAndType 5 27), (0, u "(Ljava/math/BigInteger;Ljava/math/BigInteger;)V"), (0, .methodref 8 29), (0, .nameAndType 30 31), (0, u "reduced"), (0, u "(Ljava/math/BigInteger;Ljava/math/BigInteger;)Lcom/example/dendrocover/dendrocover/Rational;"), (2, u "WRITTEN"), (0, u "Ljava/util/regex/Pattern;"), (33, u "()I"), (8, .methodref 17 79), (0, .nameAndType 80 69), (0, u "signum"), (6, .methodref 17 88), (0, .nameAndType 89 90), (0, u "gcd"), (0, u "(Ljava/math/BigInteger;)Ljava/math/BigInteger;"), (4, .methodref 17 96), (0, .nameAndType 97 90), (0, u "divide"), (23, .methodref 17 122), (0, .nameAndType 123 124), (0, u "equals"), (0, u "(Ljava/lang/Object;)Z"), (20, .class_ 146), (0, u "java/lang/Comparable"), (2, u "of"), (0, u "(J)Lcom/example/dendrocover/dendrocover/Rational;"), (0, u "(JJ)Lcom/example/dendrocover/dendrocover/Rational;")] 34

def k5c0 : Code := { maxStack := 2, maxLocals := 3, code := prog_30_method_1_code, exceptionTable := #[], attributes := #[] }
def k5m0 : Method := { name := "<init>", desc := "(Ljava/math/BigInteger;Ljava/math/BigInteger;)V", sig := { parameters := [(.object "java/math/BigInteger"), (.object "java/math/BigInteger")], returnType := none }, accessFlags := 2, code := some k5c0 }
def k5c1 : Code := { maxStack := 4, maxLocals := 2, code := prog_30_method_2_code, exceptionTable := #[], attributes := #[] }
def k5m1 : Method := { name := "of", desc := "(J)Lcom/example/dendrocover/dendrocover/Rational;", sig := { parameters := [.long], returnType := some (.object "com/example/dendrocover/dendrocover/Rational") }, accessFlags := 9, code := some k5c1 }
def k5c2 : Code := { maxStack := 3, maxLocals := 4, code := prog_30_method_3_code, exceptionTable := #[], attributes := #[] }
def k5m2 : Method := { name := "of", desc := "(JJ)Lcom/example/dendrocover/dendrocover/Rational;", sig := { parameters := [.long, .long], returnType := some (.object "com/example/dendrocover/dendrocover/Rational") }, accessFlags := 9, code := some k5c2 }
def k5c3 : Code := { maxStack := 5, maxLocals := 3, code := prog_30_method_5_code, exceptionTable := #[], attributes := #[] }
def k5m3 : Method := { name := "reduced", desc := "(Ljava/math/BigInteger;Ljava/math/BigInteger;)Lcom/example/dendrocover/dendrocover/Rational;", sig := { parameters := [(.object "java/math/BigInteger"), (.object "java/math/BigInteger")], returnType := some (.object "com/example/dendrocover/dendrocover/Rational") }, accessFlags := 10, code := some k5c3 }
def k5c4 : Code := { maxStack := 2, maxLocals := 3, code := prog_30_method_16_code, exceptionTable := #[], attributes := #[] }
def k5m4 : Method := { name := "equals", desc := "(Ljava/lang/Object;)Z", sig := { parameters := [(.object "java/lang/Object")], returnType := some .boolean }, accessFlags := 1, code := some k5c4 }
/-- com/example/dendrocover/dendrocover/Rational -/
def k5 : Class := { plain "com/example/dendrocover/dendrocover/Rational" (some 0) with
  accessFlags := 49
  interfaces := #[4]
  cf := some (fileOf pool5 8 #[] #[{ accessFlags := 2, nameIndex := 5, descriptorIndex := 27, attributes := #[] }, { accessFlags := 9, nameIndex := 149, descriptorIndex := 150, attributes := #[] }, { accessFlags := 9, nameIndex := 149, descriptorIndex := 151, attributes := #[] }, { accessFlags := 10, nameIndex := 30, descriptorIndex := 31, attributes := #[] }, { accessFlags := 1, nameIndex := 123, descriptorIndex := 124, attributes := #[] }] 49 2 #[145] #[{ accessFlags := 26, nameIndex := 34, descriptorIndex := 35, attributes := #[] }, { accessFlags := 18, nameIndex := 11, descriptorIndex := 12, attributes := #[] }, { accessFlags := 18, nameIndex := 15, descriptorIndex := 12, attributes := #[] }])
  fields := #[{ name := "WRITTEN", type := (.object "java/util/regex/Pattern"), accessFlags := 26, slot := 0, constantValue := 0 }, { name := "numerator", type := (.object "java/math/BigInteger"), accessFlags := 18, slot := 0, constantValue := 0 }, { name := "denominator", type := (.object "java/math/BigInteger"), accessFlags := 18, slot := 1, constantValue := 0 }]
  methods := #[k5m0, k5m1, k5m2, k5m3, k5m4]
  instanceTypes := #[(.object "java/math/BigInteger"), (.object "java/math/BigInteger")]
  staticTypes := #[(.object "java/util/regex/Pattern")]
  resolved := Array.replicate 186 none
  statics := none }

def pool6 : Array CpInfo := pool [(1, .class_ 2), (0, u "java/io/Serializable"), (0, .class_ 4), (0, u "java/lang/Object")] 2

/-- java/io/Serializable -/
def k6 : Class := { plain "java/io/Serializable" (some 0) with
  accessFlags := 1537
  interfaces := #[]
  cf := some (fileOf pool6 1 #[] #[] 1537 3 #[] #[])
  fields := #[]
  methods := #[]
  instanceTypes := #[]
  staticTypes := #[]
  resolved := Array.replicate 7 none
  statics := none }

def pool7 : Array CpInfo := pool [(1, .methodref 2 3), (0, .class_ 4), (0, .nameAndType 5 6), (0, u "java/lang/Object"), (0, u "<init>"), (0, u "()V"), (1, .class_ 10), (1, u "java/lang/Number"), (2, .class_ 14), (0, u "java/io/Serializable"), (0, u "serialVersionUID"), (0, u "J")] 20

def k7c0 : Code := { maxStack := 1, maxLocals := 1, code := jdk_18_method_1_code, exceptionTable := #[], attributes := #[] }
def k7m0 : Method := { name := "<init>", desc := "()V", sig := { parameters := [], returnType := none }, accessFlags := 1, code := some k7c0 }
/-- java/lang/Number -/
def k7 : Class := { plain "java/lang/Number" (some 0) with
  accessFlags := 1057
  interfaces := #[6]
  cf := some (fileOf pool7 8 #[] #[{ accessFlags := 1, nameIndex := 5, descriptorIndex := 6, attributes := #[] }] 1057 2 #[13] #[{ accessFlags := 26, nameIndex := 15, descriptorIndex := 16, attributes := #[] }])
  fields := #[{ name := "serialVersionUID", type := .long, accessFlags := 26, slot := 0, constantValue := 0 }]
  methods := #[k7m0]
  instanceTypes := #[]
  staticTypes := #[.long]
  resolved := Array.replicate 37 none
  statics := none }

def pool8 : Array CpInfo := pool [(1, .class_ 2), (0, u "java/lang/Integer"), (0, .methodref 4 5), (0, .class_ 6), (0, .nameAndType 7 8), (0, u "java/lang/Number"), (0, u "<init>"), (0, u "()V"), (13, .fieldref 23 24), (0, .class_ 25), (0, .nameAndType 26 27), (0, u "java/math/BigInteger"), (0, u "ZERO"), (0, u "Ljava/math/BigInteger;"), (0, .fieldref 23 29), (0, .nameAndType 30 31), (0, u "mag"), (0, u "[I"), (0, .fieldref 23 33), (0, .nameAndType 34 35), (0, u "signum"), (0, u "I"), (7, .integer 67108864), (30, u "()I"), (7, u "(I)I"), (12, u "bitsPerDigit"), (0, u "[J"), (9, u "digitsPerInt"), (12, u "intRadix"), (57, u "([II)V"), (2, u "SMALL_PRIME_PRODUCT"), (3, u "(Ljava/math/BigInteger;)Ljava/math/BigInteger;"), (34, u "(I)Ljava/math/BigInteger;"), (17, u "valueOf"), (0, u "(J)Ljava/math/BigInteger;"), (21, u "ONE"), (2, u "equals"), (0, u "(Ljava/lang/Object;)Z"), (2, u "TWO"), (30, u "abs"), (12, u "$assertionsDisabled"), (0, u "Z"), (9, u "()Ljava/math/BigInteger;"), (22, .long 16), (1, .fieldref 23 348), (0, .nameAndType 349 350), (0, u "posConst"), (0, u "[Ljava/math/BigInteger;"), (0, .long 18446744073709551600), (1, .fieldref 23 354), (0, .nameAndType 355 350), (0, u "negConst"), (0, .methodref 23 357), (0, .nameAndType 7 358), (0, u "(J)V"), (1, .nameAndType 7 361), (0, u "([I)V"), (110, .class_ 474), (1, u "java/math/BigInteger$RecursiveOp"), (10, .methodref 23 486), (0, .nameAndType 298 322), (48, .methodref 23 536), (0, .nameAndType 537 184), (0, u "divideKnuth"), (3, .class_ 542), (0, u "java/math/MutableBigInteger"), (0, .methodref 541 5), (0, .methodref 541 360), (0, .methodref 541 546), (0, .nameAndType 537 547), (0, u "(Ljava/math/MutableBigInteger;Ljava/math/MutableBigInteger;Z)Ljava/math/MutableBigInteger;"), (0, .methodref 541 549), (0, .nameAndType 550 219), (0, u "toBigInteger"), (16, .methodref 541 568), (0, .nameAndType 7 569), (0, u "(Ljava/math/BigInteger;)V"), (11, u "NEGATIVE_ONE"), (16, .methodref 541 599), (0, .nameAndType 600 601), (0, u "hybridGCD"), (0, u "(Ljava/math/MutableBigInteger;)Ljava/math/MutableBigInteger;"), (0, .methodref 1 603), (0, .nameAndType 604 82), (0, u "numberOfLeadingZeros"), (2, u "bitLengthForInt"), (34, u "divide"), (30, u "bnExpModThreshTable"), (72, u "lowestSetBitPlusTwo"), (2, u "bitLengthPlusOne"), (2, u "bitCountPlusOne"), (6, u "LOG_TWO"), (0, u "D"), (2, u "logCache"), (0, u "[D"), (13, u "NUM_ZEROS"), (2, u "ZEROS"), (0, u "Ljava/lang/String;"), (9, u "longRadix"), (5, u "digitsPerLong"), (22, u "powerCache"), (0, u "[[Ljava/math/BigInteger;"), (45, u "firstNonzeroIntNumPlusTwo"), (38, .class_ 909), (1, u "java/math/BigInteger$UnsafeHolder"), (141, u "TEN"), (106, u "serialPersistentFields"), (0, u "[Ljava/io/ObjectStreamField;"), (0, .class_ 1161), (0, u "java/lang/Comparable"), (0, u "LONG_MASK"), (0, u "J"), (1, u "MAX_MAG_LENGTH"), (0, u "PRIME_SEARCH_BIT_LENGTH_LIMIT"), (1, u "KARATSUBA_THRESHOLD"), (1, u "TOOM_COOK_THRESHOLD"), (1, u "KARATSUBA_SQUARE_THRESHOLD"), (1, u "TOOM_COOK_SQUARE_THRESHOLD"), (1, u "BURNIKEL_ZIEGLER_THRESHOLD"), (0, u "BURNIKEL_ZIEGLER_OFFSET"), (1, u "SCHOENHAGE_BASE_CONVERSION_THRESHOLD"), (1, u "MULTIPLY_SQUARE_THRESHOLD"), (0, u "MONTGOMERY_INTRINSIC_THRESHOLD"), (1, u "SMALL_PRIME_THRESHOLD"), (1, u "DEFAULT_PRIME_CERTAINTY"), (1, u "MAX_CONSTANT"), (3, u "serialVersionUID"), (186, u "gcd"), (151, .class_ 1532), (0, u "java/math/BigInteger$RecursiveOp$RecursiveSquare"), (0, .class_ 1534), (0, u "java/math/BigInteger$RecursiveOp$RecursiveMultiply")] 7

def k8c0 : Code := { maxStack := 2, maxLocals := 3, code := jdk_2097_method_25_code, exceptionTable := #[], attributes := #[] }
def k8m0 : Method := { name := "<init>", desc := "([II)V", sig := { parameters := [(.array .int), .int], returnType := none }, accessFlags := 0, code := some k8c0 }
def k8c1 : Code := { maxStack := 4, maxLocals := 2, code := jdk_2097_method_29_code, exceptionTable := #[], attributes := #[] }
def k8m1 : Method := { name := "valueOf", desc := "(J)Ljava/math/BigInteger;", sig := { parameters := [.long], returnType := some (.object "java/math/BigInteger") }, accessFlags := 9, code := some k8c1 }
def k8c2 : Code := { maxStack := 4, maxLocals := 4, code := jdk_2097_method_30_code, exceptionTable := #[], attributes := #[] }
def k8m2 : Method := { name := "<init>", desc := "(J)V", sig := { parameters := [.long], returnType := none }, accessFlags := 2, code := some k8c2 }
def k8c3 : Code := { maxStack := 2, maxLocals := 2, code := jdk_2097_method_61_code, exceptionTable := #[], attributes := #[] }
def k8m3 : Method := { name := "divide", desc := "(Ljava/math/BigInteger;)Ljava/math/BigInteger;", sig := { parameters := [(.object "java/math/BigInteger")], returnType := some (.object "java/math/BigInteger") }, accessFlags := 1, code := some k8c3 }
def k8c4 : Code := { maxStack := 4, maxLocals := 5, code := jdk_2097_method_62_code, exceptionTable := #[], attributes := #[] }
def k8m4 : Method := { name := "divideKnuth", desc := "(Ljava/math/BigInteger;)Ljava/math/BigInteger;", sig := { parameters := [(.object "java/math/BigInteger")], returnType := some (.object "java/math/BigInteger") }, accessFlags := 2, code := some k8c4 }
def k8c5 : Code := { maxStack := 3, maxLocals := 5, code := jdk_2097_method_73_code, exceptionTable := #[], attributes := #[] }
def k8m5 : Method := { name := "gcd", desc := "(Ljava/math/BigInteger;)Ljava/math/BigInteger;", sig := { parameters := [(.object "java/math/BigInteger")], returnType := some (.object "java/math/BigInteger") }, accessFlags := 1, code := some k8c5 }
def k8c6 : Code := { maxStack := 2, maxLocals := 1, code := jdk_2097_method_74_code, exceptionTable := #[], attributes := #[] }
def k8m6 : Method := { name := "bitLengthForInt", desc := "(I)I", sig := { parameters := [.int], returnType := some .int }, accessFlags := 8, code := some k8c6 }
def k8c7 : Code := { maxStack := 1, maxLocals := 1, code := jdk_2097_method_79_code, exceptionTable := #[], attributes := #[] }
def k8m7 : Method := { name := "abs", desc := "()Ljava/math/BigInteger;", sig := { parameters := [], returnType := some (.object "java/math/BigInteger") }, accessFlags := 1, code := some k8c7 }
def k8c8 : Code := { maxStack := 1, maxLocals := 1, code := jdk_2097_method_81_code, exceptionTable := #[], attributes := #[] }
def k8m8 : Method := { name := "signum", desc := "()I", sig := { parameters := [], returnType := some .int }, accessFlags := 1, code := some k8c8 }
def k8c9 : Code := { maxStack := 3, maxLocals := 7, code := jdk_2097_method_124_code, exceptionTable := #[], attributes := #[] }
def k8m9 : Method := { name := "equals", desc := "(Ljava/lang/Object;)Z", sig := { parameters := [(.object "java/lang/Object")], returnType := some .boolean }, accessFlags := 1, code := some k8c9 }
/-- java/math/BigInteger -/
def k8 : Class := { plain "java/math/BigInteger" (some 7) with
  accessFlags := 33
  interfaces := #[4]
  cf := some (fileOf pool8 23 #[.nestMembers #[907, 472, 1531, 1533]] #[{ accessFlags := 0, nameIndex := 7, descriptorIndex := 177, attributes := #[] }, { accessFlags := 9, nameIndex := 237, descriptorIndex := 238, attributes := #[] }, { accessFlags := 2, nameIndex := 7, descriptorIndex := 358, attributes := #[] }, { accessFlags := 1, nameIndex := 642, descriptorIndex := 184, attributes := #[] }, { accessFlags := 2, nameIndex := 537, descriptorIndex := 184, attributes := #[] }, { accessFlags := 1, nameIndex := 1379, descriptorIndex := 184, attributes := #[] }, { accessFlags := 8, nameIndex := 607, descriptorIndex := 82, attributes := #[] }, { accessFlags := 1, nameIndex := 298, descriptorIndex := 322, attributes := #[] }, { accessFlags := 1, nameIndex := 34, descriptorIndex := 74, attributes := #[] }, { accessFlags := 1, nameIndex := 263, descriptorIndex := 264, attributes := #[] }] 33 4 #[1160] #[{ accessFlags := 16, nameIndex := 34, descriptorIndex := 35, attributes := #[] }, { accessFlags := 16, nameIndex := 30, descriptorIndex := 31, attributes := #[] }, { accessFlags := 2, nameIndex := 752, descriptorIndex := 35, attributes := #[] }, { accessFlags := 2, nameIndex := 749, descriptorIndex := 35, attributes := #[] }, { accessFlags := 2, nameIndex := 746, descriptorIndex := 35, attributes := #[] }, { accessFlags := 2, nameIndex := 868, descriptorIndex := 35, attributes := #[] }, { accessFlags := 24, nameIndex := 1162, descriptorIndex := 1163, attributes := #[] }, { accessFlags := 26, nameIndex := 1165, descriptorIndex := 35, attributes := #[] }, { accessFlags := 26, nameIndex := 1166, descriptorIndex := 35, attributes := #[] }, { accessFlags := 26, nameIndex := 1168, descriptorIndex := 35, attributes := #[] }, { accessFlags := 26, nameIndex := 1170, descriptorIndex := 35, attributes := #[] }, { accessFlags := 26, nameIndex := 1172, descriptorIndex := 35, attributes := #[] }, { accessFlags := 26, nameIndex := 1174, descriptorIndex := 35, attributes := #[] }, { accessFlags := 24, nameIndex := 1176, descriptorIndex := 35, attributes := #[] }, { accessFlags := 24, nameIndex := 1177, descriptorIndex := 35, attributes := #[] }, { accessFlags := 26, nameIndex := 1179, descriptorIndex := 35, attributes := #[] }, { accessFlags := 26, nameIndex := 1181, descriptorIndex := 35, attributes := #[] }, { accessFlags := 26, nameIndex := 1182, descriptorIndex := 35, attributes := #[] }, { accessFlags := 10, nameIndex := 95, descriptorIndex := 96, attributes := #[] }, { accessFlags := 26, nameIndex := 1184, descriptorIndex := 35, attributes := #[] }, { accessFlags := 26, nameIndex := 1186, descriptorIndex := 35, attributes := #[] }, { accessFlags := 26, nameIndex := 180, descriptorIndex := 27, attributes := #[] }, { accessFlags := 26, nameIndex := 1188, descriptorIndex := 35, attributes := #[] }, { accessFlags := 26, nameIndex := 349, descriptorIndex := 350, attributes := #[] }, { accessFlags := 26, nameIndex := 355, descriptorIndex := 350, attributes := #[] }, { accessFlags := 74, nameIndex := 821, descriptorIndex := 822, attributes := #[] }, { accessFlags := 26, nameIndex := 763, descriptorIndex := 764, attributes := #[] }, { accessFlags := 26, nameIndex := 759, descriptorIndex := 760, attributes := #[] }, { accessFlags := 25, nameIndex := 26, descriptorIndex := 27, attributes := #[] }, { accessFlags := 25, nameIndex := 260, descriptorIndex := 27, attributes := #[] }, { accessFlags := 25, nameIndex := 267, descriptorIndex := 27, attributes := #[] }, { accessFlags := 26, nameIndex := 581, descriptorIndex := 27, attributes := #[] }, { accessFlags := 25, nameIndex := 1051, descriptorIndex := 27, attributes := #[] }, { accessFlags := 8, nameIndex := 673, descriptorIndex := 31, attributes := #[] }, { accessFlags := 10, nameIndex := 778, descriptorIndex := 35, attributes := #[] }, { accessFlags := 26, nameIndex := 781, descriptorIndex := 782, attributes := #[] }, { accessFlags := 10, nameIndex := 798, descriptorIndex := 31, attributes := #[] }, { accessFlags := 10, nameIndex := 792, descriptorIndex := 350, attributes := #[] }, { accessFlags := 10, nameIndex := 106, descriptorIndex := 31, attributes := #[] }, { accessFlags := 10, nameIndex := 119, descriptorIndex := 31, attributes := #[] }, { accessFlags := 26, nameIndex := 1192, descriptorIndex := 1163, attributes := #[] }, { accessFlags := 26, nameIndex := 1158, descriptorIndex := 1159, attributes := #[] }, { accessFlags := 4120, nameIndex := 311, descriptorIndex := 312, attributes := #[] }])
  fields := #[{ name := "signum", type := .int, accessFlags := 16, slot := 0, constantValue := 0 }, { name := "mag", type := (.array .int), accessFlags := 16, slot := 1, constantValue := 0 }, { name := "bitCountPlusOne", type := .int, accessFlags := 2, slot := 2, constantValue := 0 }, { name := "bitLengthPlusOne", type := .int, accessFlags := 2, slot := 3, constantValue := 0 }, { name := "lowestSetBitPlusTwo", type := .int, accessFlags := 2, slot := 4, constantValue := 0 }, { name := "firstNonzeroIntNumPlusTwo", type := .int, accessFlags := 2, slot := 5, constantValue := 0 }, { name := "LONG_MASK", type := .long, accessFlags := 24, slot := 0, constantValue := 0 }, { name := "MAX_MAG_LENGTH", type := .int, accessFlags := 26, slot := 1, constantValue := 0 }, { name := "PRIME_SEARCH_BIT_LENGTH_LIMIT", type := .int, accessFlags := 26, slot := 2, constantValue := 0 }, { name := "KARATSUBA_THRESHOLD", type := .int, accessFlags := 26, slot := 3, constantValue := 0 }, { name := "TOOM_COOK_THRESHOLD", type := .int, accessFlags := 26, slot := 4, constantValue := 0 }, { name := "KARATSUBA_SQUARE_THRESHOLD", type := .int, accessFlags := 26, slot := 5, constantValue := 0 }, { name := "TOOM_COOK_SQUARE_THRESHOLD", type := .int, accessFlags := 26, slot := 6, constantValue := 0 }, { name := "BURNIKEL_ZIEGLER_THRESHOLD", type := .int, accessFlags := 24, slot := 7, constantValue := 0 }, { name := "BURNIKEL_ZIEGLER_OFFSET", type := .int, accessFlags := 24, slot := 8, constantValue := 0 }, { name := "SCHOENHAGE_BASE_CONVERSION_THRESHOLD", type := .int, accessFlags := 26, slot := 9, constantValue := 0 }, { name := "MULTIPLY_SQUARE_THRESHOLD", type := .int, accessFlags := 26, slot := 10, constantValue := 0 }, { name := "MONTGOMERY_INTRINSIC_THRESHOLD", type := .int, accessFlags := 26, slot := 11, constantValue := 0 }, { name := "bitsPerDigit", type := (.array .long), accessFlags := 10, slot := 12, constantValue := 0 }, { name := "SMALL_PRIME_THRESHOLD", type := .int, accessFlags := 26, slot := 13, constantValue := 0 }, { name := "DEFAULT_PRIME_CERTAINTY", type := .int, accessFlags := 26, slot := 14, constantValue := 0 }, { name := "SMALL_PRIME_PRODUCT", type := (.object "java/math/BigInteger"), accessFlags := 26, slot := 15, constantValue := 0 }, { name := "MAX_CONSTANT", type := .int, accessFlags := 26, slot := 16, constantValue := 0 }, { name := "posConst", type := (.array (.object "java/math/BigInteger")), accessFlags := 26, slot := 17, constantValue := 0 }, { name := "negConst", type := (.array (.object "java/math/BigInteger")), accessFlags := 26, slot := 18, constantValue := 0 }, { name := "powerCache", type := (.array (.array (.object "java/math/BigInteger"))), accessFlags := 74, slot := 19, constantValue := 0 }, { name := "logCache", type := (.array .double), accessFlags := 26, slot := 20, constantValue := 0 }, { name := "LOG_TWO", type := .double, accessFlags := 26, slot := 21, constantValue := 0 }, { name := "ZERO", type := (.object "java/math/BigInteger"), accessFlags := 25, slot := 22, constantValue := 0 }, { name := "ONE", type := (.object "java/math/BigInteger"), accessFlags := 25, slot := 23, constantValue := 0 }, { name := "TWO", type := (.object "java/math/BigInteger"), accessFlags := 25, slot := 24, constantValue := 0 }, { name := "NEGATIVE_ONE", type := (.object "java/math/BigInteger"), accessFlags := 26, slot := 25, constantValue := 0 }, { name := "TEN", type := (.object "java/math/BigInteger"), accessFlags := 25, slot := 26, constantValue := 0 }, { name := "bnExpModThreshTable", type := (.array .int), accessFlags := 8, slot := 27, constantValue := 0 }, { name := "NUM_ZEROS", type := .int, accessFlags := 10, slot := 28, constantValue := 0 }, { name := "ZEROS", type := (.object "java/lang/String"), accessFlags := 26, slot := 29, constantValue := 0 }, { name := "digitsPerLong", type := (.array .int), accessFlags := 10, slot := 30, constantValue := 0 }, { name := "longRadix", type := (.array (.object "java/math/BigInteger")), accessFlags := 10, slot := 31, constantValue := 0 }, { name := "digitsPerInt", type := (.array .int), accessFlags := 10, slot := 32, constantValue := 0 }, { name := "intRadix", type := (.array .int), accessFlags := 10, slot := 33, constantValue := 0 }, { name := "serialVersionUID", type := .long, accessFlags := 26, slot := 34, constantValue := 0 }, { name := "serialPersistentFields", type := (.array (.object "java/io/ObjectStreamField")), accessFlags := 26, slot := 35, constantValue := 0 }, { name := "$assertionsDisabled", type := .boolean, accessFlags := 4120, slot := 36, constantValue := 0 }]
  methods := #[k8m0, k8m1, k8m2, k8m3, k8m4, k8m5, k8m6, k8m7, k8m8, k8m9]
  instanceTypes := #[.int, (.array .int), .int, .int, .int, .int]
  staticTypes := #[.long, .int, .int, .int, .int, .int, .int, .int, .int, .int, .int, .int, (.array .long), .int, .int, (.object "java/math/BigInteger"), .int, (.array (.object "java/math/BigInteger")), (.array (.object "java/math/BigInteger")), (.array (.array (.object "java/math/BigInteger"))), (.array .double), .double, (.object "java/math/BigInteger"), (.object "java/math/BigInteger"), (.object "java/math/BigInteger"), (.object "java/math/BigInteger"), (.object "java/math/BigInteger"), (.array .int), .int, (.object "java/lang/String"), (.array .int), (.array (.object "java/math/BigInteger")), (.array .int), (.array .int), .long, (.array (.object "java/io/ObjectStreamField")), .boolean]
  resolved := Array.replicate 1542 none
  statics := some 0 }

def pool9 : Array CpInfo := pool [(1, .class_ 2), (0, u "java/math/BigInteger"), (2, .methodref 6 7), (0, .class_ 8), (0, .nameAndType 9 10), (0, u "java/lang/Object"), (0, u "<init>"), (0, u "()V"), (0, .fieldref 12 13), (0, .class_ 14), (0, .nameAndType 15 16), (0, u "java/math/MutableBigInteger"), (0, u "offset"), (0, u "I"), (0, .fieldref 12 18), (0, .nameAndType 19 20), (0, u "value"), (0, u "[I"), (0, .fieldref 12 22), (0, .nameAndType 23 16), (0, u "intLen"), (0, .fieldref 1 25), (0, .nameAndType 26 20), (0, u "mag"), (0, .methodref 28 29), (0, .class_ 30), (0, .nameAndType 31 32), (0, u "java/util/Arrays"), (0, u "copyOf"), (0, u "([II)[I"), (7, u "([II)V"), (2, u "$assertionsDisabled"), (0, u "Z"), (7, .long 4294967295), (1, .fieldref 1 55), (0, .nameAndType 56 57), (0, u "ZERO"), (0, u "Ljava/math/BigInteger;"), (0, .methodref 12 59), (0, .nameAndType 60 61), (0, u "getMagnitudeArray"), (0, u "()[I"), (0, .methodref 1 63), (0, .nameAndType 9 40), (0, .methodref 12 65), (0, .nameAndType 66 10), (0, u "normalize"), (6, u "toBigInteger"), (0, u "(I)Ljava/math/BigInteger;"), (13, .integer 2147483648), (0, .methodref 90 91), (0, .class_ 92), (0, .nameAndType 93 94), (0, u "java/lang/Integer"), (0, u "numberOfTrailingZeros"), (0, u "(I)I"), (13, .methodref 12 109), (0, .nameAndType 110 111), (0, u "rightShift"), (0, u "(I)V"), (0, .methodref 1 113), (0, .nameAndType 114 94), (0, u "bitLengthForInt"), (0, .methodref 12 116), (0, .nameAndType 117 111), (0, u "primitiveLeftShift"), (0, .methodref 12 119), (0, .nameAndType 120 111), (0, u "primitiveRightShift"), (10, .class_ 133), (1, u "java/lang/Math"), (1, u "(II)I"), (6, .methodref 12 143), (0, .nameAndType 144 145), (0, u "compare"), (0, u "(Ljava/math/MutableBigInteger;)I"), (3, .methodref 12 150), (0, .nameAndType 151 10), (0, u "clear"), (0, .methodref 90 153), (0, .nameAndType 154 94), (0, u "numberOfLeadingZeros"), (7, u "(Ljava/math/MutableBigInteger;Ljava/math/MutableBigInteger;Z)Ljava/math/MutableBigInteger;"), (2, u "divideKnuth"), (11, .methodref 12 7), (0, .methodref 12 179), (0, .nameAndType 180 181), (0, u "divideOneWord"), (0, u "(ILjava/math/MutableBigInteger;)I"), (2, .methodref 12 185), (0, .nameAndType 186 187), (0, u "getLowestSetBit"), (0, u "()I"), (57, u "(Ljava/math/BigInteger;)V"), (11, u "ONE"), (0, u "Ljava/math/MutableBigInteger;"), (2, u "([I)V"), (67, .methodref 131 330), (0, .nameAndType 331 94), (0, u "abs"), (0, .methodref 12 333), (0, .nameAndType 334 335), (0, u "binaryGCD"), (0, u "(Ljava/math/MutableBigInteger;)Ljava/math/MutableBigInteger;"), (2, .methodref 12 339), (0, .nameAndType 340 135), (0, u "binaryGcd"), (0, .methodref 12 342), (0, .nameAndType 343 145), (0, u "difference"), (67, u "KNUTH_POW2_THRESH_LEN"), (2, u "KNUTH_POW2_THRESH_ZEROS"), (137, u "hybridGCD")] 37

def k9c0 : Code := { maxStack := 2, maxLocals := 1, code := jdk_2101_method_1_code, exceptionTable := #[], attributes := #[] }
def k9m0 : Method := { name := "<init>", desc := "()V", sig := { parameters := [], returnType := none }, accessFlags := 0, code := some k9c0 }
def k9c1 : Code := { maxStack := 2, maxLocals := 2, code := jdk_2101_method_3_code, exceptionTable := #[], attributes := #[] }
def k9m1 : Method := { name := "<init>", desc := "([I)V", sig := { parameters := [(.array .int)], returnType := none }, accessFlags := 0, code := some k9c1 }
def k9c2 : Code := { maxStack := 3, maxLocals := 2, code := jdk_2101_method_4_code, exceptionTable := #[], attributes := #[] }
def k9m2 : Method := { name := "<init>", desc := "(Ljava/math/BigInteger;)V", sig := { parameters := [(.object "java/math/BigInteger")], returnType := none }, accessFlags := 0, code := some k9c2 }
def k9c3 : Code := { maxStack := 4, maxLocals := 2, code := jdk_2101_method_7_code, exceptionTable := #[], attributes := #[] }
def k9m3 : Method := { name := "getMagnitudeArray", desc := "()[I", sig := { parameters := [], returnType := some (.array .int) }, accessFlags := 2, code := some k9c3 }
def k9c4 : Code := { maxStack := 4, maxLocals := 2, code := jdk_2101_method_9_code, exceptionTable := #[], attributes := #[] }
def k9m4 : Method := { name := "toBigInteger", desc := "(I)Ljava/math/BigInteger;", sig := { parameters := [.int], returnType := some (.object "java/math/BigInteger") }, accessFlags := 0, code := some k9c4 }
def k9c5 : Code := { maxStack := 4, maxLocals := 3, code := jdk_2101_method_13_code, exceptionTable := #[], attributes := #[] }
def k9m5 : Method := { name := "clear", desc := "()V", sig := { parameters := [], returnType := none }, accessFlags := 0, code := some k9c5 }
def k9c6 : Code := { maxStack := 3, maxLocals := 8, code := jdk_2101_method_15_code, exceptionTable := #[], attributes := #[] }
def k9m6 : Method := { name := "compare", desc := "(Ljava/math/MutableBigInteger;)I", sig := { parameters := [(.object "java/math/MutableBigInteger")], returnType := some .int }, accessFlags := 16, code := some k9c6 }
def k9c7 : Code := { maxStack := 3, maxLocals := 3, code := jdk_2101_method_18_code, exceptionTable := #[], attributes := #[] }
def k9m7 : Method := { name := "getLowestSetBit", desc := "()I", sig := { parameters := [], returnType := some .int }, accessFlags := 18, code := some k9c7 }
def k9c8 : Code := { maxStack := 3, maxLocals := 4, code := jdk_2101_method_21_code, exceptionTable := #[], attributes := #[] }
def k9m8 : Method := { name := "normalize", desc := "()V", sig := { parameters := [], returnType := none }, accessFlags := 16, code := some k9c8 }
def k9c9 : Code := { maxStack := 3, maxLocals := 5, code := jdk_2101_method_35_code, exceptionTable := #[], attributes := #[] }
def k9m9 : Method := { name := "rightShift", desc := "(I)V", sig := { parameters := [.int], returnType := none }, accessFlags := 0, code := some k9c9 }
def k9c10 : Code := { maxStack := 5, maxLocals := 7, code := jdk_2101_method_41_code, exceptionTable := #[], attributes := #[] }
def k9m10 : Method := { name := "primitiveRightShift", desc := "(I)V", sig := { parameters := [.int], returnType := none }, accessFlags := 18, code := some k9c10 }
def k9c11 : Code := { maxStack := 5, maxLocals := 8, code := jdk_2101_method_42_code, exceptionTable := #[], attributes := #[] }
def k9m11 : Method := { name := "primitiveLeftShift", desc := "(I)V", sig := { parameters := [.int], returnType := none }, accessFlags := 18, code := some k9c11 }
def k9c12 : Code := { maxStack := 6, maxLocals := 8, code := jdk_2101_method_50_code, exceptionTable := #[], attributes := #[] }
def k9m12 : Method := { name := "difference", desc := "(Ljava/math/MutableBigInteger;)I", sig := { parameters := [(.object "java/math/MutableBigInteger")], returnType := some .int }, accessFlags := 2, code := some k9c12 }
def k9c13 : Code := { maxStack := 6, maxLocals := 15, code := jdk_2101_method_53_code, exceptionTable := #[], attributes := #[] }
def k9m13 : Method := { name := "divideOneWord", desc := "(ILjava/math/MutableBigInteger;)I", sig := { parameters := [.int, (.object "java/math/MutableBigInteger")], returnType := some .int }, accessFlags := 0, code := some k9c13 }
def k9c14 : Code := { maxStack := 5, maxLocals := 8, code := jdk_2101_method_57_code, exceptionTable := #[], attributes := #[] }
def k9m14 : Method := { name := "divideKnuth", desc := "(Ljava/math/MutableBigInteger;Ljava/math/MutableBigInteger;Z)Ljava/math/MutableBigInteger;", sig := { parameters := [(.object "java/math/MutableBigInteger"), (.object "java/math/MutableBigInteger"), .boolean], returnType := some (.object "java/math/MutableBigInteger") }, accessFlags := 0, code := some k9c14 }
def k9c15 : Code := { maxStack := 3, maxLocals := 5, code := jdk_2101_method_72_code, exceptionTable := #[], attributes := #[] }
def k9m15 : Method := { name := "hybridGCD", desc := "(Ljava/math/MutableBigInteger;)Ljava/math/MutableBigInteger;", sig := { parameters := [(.object "java/math/MutableBigInteger")], returnType := some (.object "java/math/MutableBigInteger") }, accessFlags := 0, code := some k9c15 }
def k9c16 : Code := { maxStack := 3, maxLocals := 13, code := jdk_2101_method_73_code, exceptionTable := #[], attributes := #[] }
def k9m16 : Method := { name := "binaryGCD", desc := "(Ljava/math/MutableBigInteger;)Ljava/math/MutableBigInteger;", sig := { parameters := [(.object "java/math/MutableBigInteger")], returnType := some (.object "java/math/MutableBigInteger") }, accessFlags := 2, code := some k9c16 }
def k9c17 : Code := { maxStack := 3, maxLocals := 5, code := jdk_2101_method_74_code, exceptionTable := #[], attributes := #[] }
def k9m17 : Method := { name := "binaryGcd", desc := "(II)I", sig := { parameters := [.int, .int], returnType := some .int }, accessFlags := 8, code := some k9c17 }
/-- java/math/MutableBigInteger -/
def k9 : Class := { plain "java/math/MutableBigInteger" (some 0) with
  accessFlags := 32
  interfaces := #[]
  cf := some (fileOf pool9 12 #[] #[{ accessFlags := 0, nameIndex := 9, descriptorIndex := 10, attributes := #[] }, { accessFlags := 0, nameIndex := 9, descriptorIndex := 261, attributes := #[] }, { accessFlags := 0, nameIndex := 9, descriptorIndex := 245, attributes := #[] }, { accessFlags := 2, nameIndex := 60, descriptorIndex := 61, attributes := #[] }, { accessFlags := 0, nameIndex := 73, descriptorIndex := 74, attributes := #[] }, { accessFlags := 0, nameIndex := 151, descriptorIndex := 10, attributes := #[] }, { accessFlags := 16, nameIndex := 144, descriptorIndex := 145, attributes := #[] }, { accessFlags := 18, nameIndex := 186, descriptorIndex := 187, attributes := #[] }, { accessFlags := 16, nameIndex := 66, descriptorIndex := 10, attributes := #[] }, { accessFlags := 0, nameIndex := 110, descriptorIndex := 111, attributes := #[] }, { accessFlags := 18, nameIndex := 120, descriptorIndex := 111, attributes := #[] }, { accessFlags := 18, nameIndex := 117, descriptorIndex := 111, attributes := #[] }, { accessFlags := 2, nameIndex := 343, descriptorIndex := 145, attributes := #[] }, { accessFlags := 0, nameIndex := 180, descriptorIndex := 181, attributes := #[] }, { accessFlags := 0, nameIndex := 165, descriptorIndex := 162, attributes := #[] }, { accessFlags := 0, nameIndex := 552, descriptorIndex := 335, attributes := #[] }, { accessFlags := 2, nameIndex := 334, descriptorIndex := 335, attributes := #[] }, { accessFlags := 8, nameIndex := 340, descriptorIndex := 135, attributes := #[] }] 32 6 #[] #[{ accessFlags := 0, nameIndex := 19, descriptorIndex := 20, attributes := #[] }, { accessFlags := 0, nameIndex := 23, descriptorIndex := 16, attributes := #[] }, { accessFlags := 0, nameIndex := 15, descriptorIndex := 16, attributes := #[] }, { accessFlags := 24, nameIndex := 257, descriptorIndex := 258, attributes := #[] }, { accessFlags := 24, nameIndex := 411, descriptorIndex := 16, attributes := #[] }, { accessFlags := 24, nameIndex := 414, descriptorIndex := 16, attributes := #[] }, { accessFlags := 4120, nameIndex := 43, descriptorIndex := 44, attributes := #[] }])
  fields := #[{ name := "value", type := (.array .int), accessFlags := 0, slot := 0, constantValue := 0 }, { name := "intLen", type := .int, accessFlags := 0, slot := 1, constantValue := 0 }, { name := "offset", type := .int, accessFlags := 0, slot := 2, constantValue := 0 }, { name := "ONE", type := (.object "java/math/MutableBigInteger"), accessFlags := 24, slot := 0, constantValue := 0 }, { name := "KNUTH_POW2_THRESH_LEN", type := .int, accessFlags := 24, slot := 1, constantValue := 0 }, { name := "KNUTH_POW2_THRESH_ZEROS", type := .int, accessFlags := 24, slot := 2, constantValue := 0 }, { name := "$assertionsDisabled", type := .boolean, accessFlags := 4120, slot := 3, constantValue := 0 }]
  methods := #[k9m0, k9m1, k9m2, k9m3, k9m4, k9m5, k9m6, k9m7, k9m8, k9m9, k9m10, k9m11, k9m12, k9m13, k9m14, k9m15, k9m16, k9m17]
  instanceTypes := #[(.array .int), .int, .int]
  staticTypes := #[(.object "java/math/MutableBigInteger"), .int, .int, .boolean]
  resolved := Array.replicate 590 none
  statics := none }

def pool10 : Array CpInfo := pool [(2, .class_ 4), (1, u "java/lang/Object"), (0, u "<init>"), (0, u "()V"), (7, .class_ 16), (1, u "java/util/Arrays"), (57, .class_ 76), (1, u "java/util/Arrays$NaturalOrder"), (32, u "()Ljava/lang/Object;"), (3, .class_ 115), (1, u "java/util/Arrays$LegacyMergeSort"), (1, u "Z"), (10, .nameAndType 129 109), (0, u "clone"), (172, u "copyOf"), (13, .methodref 317 128), (0, .class_ 318), (0, u "[I"), (56, .class_ 376), (0, u "java/util/Arrays$ArrayList"), (68, u "$assertionsDisabled"), (269, u "MIN_ARRAY_SORT_GRAN"), (0, u "I"), (2, u "INSERTIONSORT_THRESHOLD"), (151, u "([II)[I"), (103, .class_ 976), (0, u "java/util/Arrays$ArrayItr")] 52

def k10m0 : Method := { name := "<init>", desc := "()V", sig := { parameters := [], returnType := none }, accessFlags := 2, code := none }
def k10c1 : Code := { maxStack := 6, maxLocals := 3, code := jdk_65_method_123_code, exceptionTable := #[], attributes := #[] }
def k10m1 : Method := { name := "copyOf", desc := "([II)[I", sig := { parameters := [(.array .int), .int], returnType := some (.array .int) }, accessFlags := 9, code := some k10c1 }
/-- java/util/Arrays -/
def k10 : Class := { plain "java/util/Arrays" (some 0) with
  accessFlags := 49
  interfaces := #[]
  cf := some (fileOf pool10 14 #[.nestMembers #[975, 375, 113, 74]] #[{ accessFlags := 2, nameIndex := 5, descriptorIndex := 6, attributes := #[] }, { accessFlags := 9, nameIndex := 302, descriptorIndex := 871, attributes := #[] }] 49 2 #[] #[{ accessFlags := 26, nameIndex := 715, descriptorIndex := 716, attributes := #[] }, { accessFlags := 26, nameIndex := 719, descriptorIndex := 716, attributes := #[] }, { accessFlags := 4120, nameIndex := 445, descriptorIndex := 117, attributes := #[] }])
  fields := #[{ name := "MIN_ARRAY_SORT_GRAN", type := .int, accessFlags := 26, slot := 0, constantValue := 0 }, { name := "INSERTIONSORT_THRESHOLD", type := .int, accessFlags := 26, slot := 1, constantValue := 0 }, { name := "$assertionsDisabled", type := .boolean, accessFlags := 4120, slot := 2, constantValue := 0 }]
  methods := #[k10m0, k10m1]
  instanceTypes := #[]
  staticTypes := #[.int, .int, .boolean]
  resolved := Array.replicate 1029 none
  statics := none }

def pool11 : Array CpInfo := pool [(1, .class_ 2), (0, u "java/lang/Cloneable"), (0, .class_ 4), (0, u "java/lang/Object")] 2

/-- java/lang/Cloneable -/
def k11 : Class := { plain "java/lang/Cloneable" (some 0) with
  accessFlags := 1537
  interfaces := #[]
  cf := some (fileOf pool11 1 #[] #[] 1537 3 #[] #[])
  fields := #[]
  methods := #[]
  instanceTypes := #[]
  staticTypes := #[]
  resolved := Array.replicate 7 none
  statics := none }

def pool12 : Array CpInfo := pool [(1, .class_ 2), (0, u "java/lang/Math"), (1, .class_ 6), (1, u "java/lang/Object"), (0, u "<init>"), (0, u "()V"), (89, .class_ 100), (1, u "java/lang/Math$RandomNumberGeneratorHolder"), (23, u "abs"), (34, u "(I)I"), (12, u "negativeZeroFloatBits"), (0, u "J"), (2, u "negativeZeroDoubleBits"), (68, u "$assertionsDisabled"), (0, u "Z"), (91, u "twoToTheDoubleScaleDown"), (0, u "D"), (4, u "twoToTheDoubleScaleUp"), (9, u "E"), (3, u "PI"), (2, u "TAU"), (2, u "DEGREES_TO_RADIANS"), (0, u "RADIANS_TO_DEGREES")] 94

def k12m0 : Method := { name := "<init>", desc := "()V", sig := { parameters := [], returnType := none }, accessFlags := 2, code := none }
def k12c1 : Code := { maxStack := 1, maxLocals := 1, code := jdk_29_method_59_code, exceptionTable := #[], attributes := #[] }
def k12m1 : Method := { name := "abs", desc := "(I)I", sig := { parameters := [.int], returnType := some .int }, accessFlags := 9, code := some k12c1 }
/-- java/lang/Math -/
def k12 : Class := { plain "java/lang/Math" (some 0) with
  accessFlags := 49
  interfaces := #[]
  cf := some (fileOf pool12 1 #[.nestMembers #[98]] #[{ accessFlags := 2, nameIndex := 7, descriptorIndex := 8, attributes := #[] }, { accessFlags := 9, nameIndex := 124, descriptorIndex := 159, attributes := #[] }] 49 4 #[] #[{ accessFlags := 25, nameIndex := 354, descriptorIndex := 339, attributes := #[] }, { accessFlags := 25, nameIndex := 358, descriptorIndex := 339, attributes := #[] }, { accessFlags := 25, nameIndex := 361, descriptorIndex := 339, attributes := #[] }, { accessFlags := 26, nameIndex := 364, descriptorIndex := 339, attributes := #[] }, { accessFlags := 26, nameIndex := 365, descriptorIndex := 339, attributes := #[] }, { accessFlags := 26, nameIndex := 172, descriptorIndex := 173, attributes := #[] }, { accessFlags := 26, nameIndex := 176, descriptorIndex := 173, attributes := #[] }, { accessFlags := 8, nameIndex := 344, descriptorIndex := 339, attributes := #[] }, { accessFlags := 8, nameIndex := 338, descriptorIndex := 339, attributes := #[] }, { accessFlags := 4120, nameIndex := 245, descriptorIndex := 246, attributes := #[] }])
  fields := #[{ name := "E", type := .double, accessFlags := 25, slot := 0, constantValue := 0 }, { name := "PI", type := .double, accessFlags := 25, slot := 1, constantValue := 0 }, { name := "TAU", type := .double, accessFlags := 25, slot := 2, constantValue := 0 }, { name := "DEGREES_TO_RADIANS", type := .double, accessFlags := 26, slot := 3, constantValue := 0 }, { name := "RADIANS_TO_DEGREES", type := .double, accessFlags := 26, slot := 4, constantValue := 0 }, { name := "negativeZeroFloatBits", type := .long, accessFlags := 26, slot := 5, constantValue := 0 }, { name := "negativeZeroDoubleBits", type := .long, accessFlags := 26, slot := 6, constantValue := 0 }, { name := "twoToTheDoubleScaleUp", type := .double, accessFlags := 8, slot := 7, constantValue := 0 }, { name := "twoToTheDoubleScaleDown", type := .double, accessFlags := 8, slot := 8, constantValue := 0 }, { name := "$assertionsDisabled", type := .boolean, accessFlags := 4120, slot := 9, constantValue := 0 }]
  methods := #[k12m0, k12m1]
  instanceTypes := #[]
  staticTypes := #[.double, .double, .double, .double, .double, .long, .long, .double, .double, .boolean]
  resolved := Array.replicate 460 none
  statics := none }

def pool13 : Array CpInfo := pool [(1, .class_ 2), (0, u "java/lang/constant/Constable"), (0, .class_ 4), (0, u "java/lang/Object")] 6

/-- java/lang/constant/Constable -/
def k13 : Class := { plain "java/lang/constant/Constable" (some 0) with
  accessFlags := 1537
  interfaces := #[]
  cf := some (fileOf pool13 1 #[] #[] 1537 3 #[] #[])
  fields := #[]
  methods := #[]
  instanceTypes := #[]
  staticTypes := #[]
  resolved := Array.replicate 11 none
  statics := none }

def pool14 : Array CpInfo := pool [(1, .class_ 2), (0, u "java/lang/constant/ConstantDesc"), (0, .class_ 4), (0, u "java/lang/Object")] 32

/-- java/lang/constant/ConstantDesc -/
def k14 : Class := { plain "java/lang/constant/ConstantDesc" (some 0) with
  accessFlags := 1537
  interfaces := #[]
  cf := some (fileOf pool14 1 #[] #[] 1537 3 #[] #[])
  fields := #[]
  methods := #[]
  instanceTypes := #[]
  staticTypes := #[]
  resolved := Array.replicate 37 none
  statics := none }

def pool15 : Array CpInfo := pool [(1, .class_ 2), (0, u "java/lang/Integer"), (16, u "digits"), (0, u "[C"), (32, u "numberOfLeadingZeros"), (0, u "(I)I"), (30, u "DigitOnes"), (0, u "[B"), (2, u "DigitTens"), (99, .class_ 190), (0, u "java/lang/Integer$IntegerCache"), (3, u "I"), (8, .class_ 204), (0, u "java/lang/Number"), (2, u "value"), (56, .integer 65536), (37, u "TYPE"), (0, u "Ljava/lang/Class;"), (0, .class_ 305), (0, u "java/lang/Comparable"), (0, .class_ 307), (0, u "java/lang/constant/Constable"), (0, .class_ 309), (0, u "java/lang/constant/ConstantDesc"), (0, u "MIN_VALUE"), (1, u "MAX_VALUE"), (3, u "SIZE"), (1, u "BYTES"), (1, u "serialVersionUID"), (0, u "J"), (84, u "numberOfTrailingZeros")] 46

def k15c0 : Code := { maxStack := 3, maxLocals := 2, code := jdk_33_method_47_code, exceptionTable := #[], attributes := #[] }
def k15m0 : Method := { name := "numberOfLeadingZeros", desc := "(I)I", sig := { parameters := [.int], returnType := some .int }, accessFlags := 9, code := some k15c0 }
def k15c1 : Code := { maxStack := 3, maxLocals := 2, code := jdk_33_method_48_code, exceptionTable := #[], attributes := #[] }
def k15m1 : Method := { name := "numberOfTrailingZeros", desc := "(I)I", sig := { parameters := [.int], returnType := some .int }, accessFlags := 9, code := some k15c1 }
/-- java/lang/Integer -/
def k15 : Class := { plain "java/lang/Integer" (some 7) with
  accessFlags := 49
  interfaces := #[4, 13, 14]
  cf := some (fileOf pool15 1 #[.nestMembers #[189]] #[{ accessFlags := 9, nameIndex := 53, descriptorIndex := 54, attributes := #[] }, { accessFlags := 9, nameIndex := 406, descriptorIndex := 54, attributes := #[] }] 49 203 #[304, 306, 308] #[{ accessFlags := 25, nameIndex := 310, descriptorIndex := 194, attributes := #[] }, { accessFlags := 25, nameIndex := 312, descriptorIndex := 194, attributes := #[] }, { accessFlags := 25, nameIndex := 302, descriptorIndex := 303, attributes := #[] }, { accessFlags := 24, nameIndex := 19, descriptorIndex := 20, attributes := #[] }, { accessFlags := 24, nameIndex := 89, descriptorIndex := 86, attributes := #[] }, { accessFlags := 24, nameIndex := 85, descriptorIndex := 86, attributes := #[] }, { accessFlags := 18, nameIndex := 207, descriptorIndex := 194, attributes := #[] }, { accessFlags := 25, nameIndex := 316, descriptorIndex := 194, attributes := #[] }, { accessFlags := 25, nameIndex := 318, descriptorIndex := 194, attributes := #[] }, { accessFlags := 26, nameIndex := 320, descriptorIndex := 321, attributes := #[] }])
  fields := #[{ name := "MIN_VALUE", type := .int, accessFlags := 25, slot := 0, constantValue := 0 }, { name := "MAX_VALUE", type := .int, accessFlags := 25, slot := 1, constantValue := 0 }, { name := "TYPE", type := (.object "java/lang/Class"), accessFlags := 25, slot := 2, constantValue := 0 }, { name := "digits", type := (.array .char), accessFlags := 24, slot := 3, constantValue := 0 }, { name := "DigitTens", type := (.array .byte), accessFlags := 24, slot := 4, constantValue := 0 }, { name := "DigitOnes", type := (.array .byte), accessFlags := 24, slot := 5, constantValue := 0 }, { name := "value", type := .int, accessFlags := 18, slot := 0, constantValue := 0 }, { name := "SIZE", type := .int, accessFlags := 25, slot := 6, constantValue := 0 }, { name := "BYTES", type := .int, accessFlags := 25, slot := 7, constantValue := 0 }, { name := "serialVersionUID", type := .long, accessFlags := 26, slot := 8, constantValue := 0 }]
  methods := #[k15m0, k15m1]
  instanceTypes := #[.int]
  staticTypes := #[.int, .int, (.object "java/lang/Class"), (.array .char), (.array .byte), (.array .byte), .int, .int, .long]
  resolved := Array.replicate 453 none
  statics := none }

/-- the primitive boolean -/
def k16 : Class := { plain "boolean" none with kind := .primitive 'Z', accessFlags := 0x411 }
/-- [Z -/
def k17 : Class := { plain "[Z" (some 0) with kind := .array 16 .boolean, interfaces := #[11, 6], accessFlags := 1041 }

/-- the primitive byte -/
def k18 : Class := { plain "byte" none with kind := .primitive 'B', accessFlags := 0x411 }
/-- [B -/
def k19 : Class := { plain "[B" (some 0) with kind := .array 18 .byte, interfaces := #[11, 6], accessFlags := 1041 }

/-- the primitive int -/
def k20 : Class := { plain "int" none with kind := .primitive 'I', accessFlags := 0x411 }
/-- [I -/
def k21 : Class := { plain "[I" (some 0) with kind := .array 20 .int, interfaces := #[11, 6], accessFlags := 1041 }

/-- the primitive long -/
def k22 : Class := { plain "long" none with kind := .primitive 'J', accessFlags := 0x411 }
/-- [J -/
def k23 : Class := { plain "[J" (some 0) with kind := .array 22 .long, interfaces := #[11, 6], accessFlags := 1041 }

/-- [Ljava/math/BigInteger; -/
def k24 : Class := { plain "[Ljava/math/BigInteger;" (some 0) with kind := .array 8 (.object "java/math/BigInteger"), interfaces := #[11, 6], accessFlags := 1041 }

def heap : Heap := #[{ cls := 8, slots := #[.long 0, .int 0, .int 0, .int 0, .int 0, .int 0, .int 0, .int 0, .int 0, .int 0, .int 0, .int 0, .null, .int 0, .int 0, .null, .int 0, .ref 1, .ref 2, .null, .null, .double 0, .ref 3, .ref 5, .ref 7, .ref 37, .ref 23, .null, .int 0, .null, .null, .null, .null, .null, .long 0, .null, .int 0], vm := .statics 8 },
  { cls := 24, slots := #[.null, .ref 5, .ref 7, .ref 9, .ref 11, .ref 13, .ref 15, .ref 17, .ref 19, .ref 21, .ref 23, .ref 25, .ref 27, .ref 29, .ref 31, .ref 33, .ref 35], vm := .none },
  { cls := 24, slots := #[.null, .ref 37, .ref 39, .ref 41, .ref 43, .ref 45, .ref 47, .ref 49, .ref 51, .ref 53, .ref 55, .ref 57, .ref 59, .ref 61, .ref 63, .ref 65, .ref 67], vm := .none },
  { cls := 8, slots := #[.int 0, .ref 4, .int 0, .int 0, .int 0, .int 0], vm := .none },
  { cls := 21, slots := #[], vm := .none },
  { cls := 8, slots := #[.int 1, .ref 6, .int 0, .int 0, .int 0, .int 0], vm := .none },
  { cls := 21, slots := #[.int 1], vm := .none },
  { cls := 8, slots := #[.int 1, .ref 8, .int 0, .int 0, .int 0, .int 0], vm := .none },
  { cls := 21, slots := #[.int 2], vm := .none },
  { cls := 8, slots := #[.int 1, .ref 10, .int 0, .int 0, .int 0, .int 0], vm := .none },
  { cls := 21, slots := #[.int 3], vm := .none },
  { cls := 8, slots := #[.int 1, .ref 12, .int 0, .int 0, .int 0, .int 0], vm := .none },
  { cls := 21, slots := #[.int 4], vm := .none },
  { cls := 8, slots := #[.int 1, .ref 14, .int 0, .int 0, .int 0, .int 0], vm := .none },
  { cls := 21, slots := #[.int 5], vm := .none },
  { cls := 8, slots := #[.int 1, .ref 16, .int 0, .int 0, .int 0, .int 0], vm := .none },
  { cls := 21, slots := #[.int 6], vm := .none },
  { cls := 8, slots := #[.int 1, .ref 18, .int 0, .int 0, .int 0, .int 0], vm := .none },
  { cls := 21, slots := #[.int 7], vm := .none },
  { cls := 8, slots := #[.int 1, .ref 20, .int 0, .int 0, .int 0, .int 0], vm := .none },
  { cls := 21, slots := #[.int 8], vm := .none },
  { cls := 8, slots := #[.int 1, .ref 22, .int 0, .int 0, .int 0, .int 0], vm := .none },
  { cls := 21, slots := #[.int 9], vm := .none },
  { cls := 8, slots := #[.int 1, .ref 24, .int 0, .int 0, .int 0, .int 0], vm := .none },
  { cls := 21, slots := #[.int 10], vm := .none },
  { cls := 8, slots := #[.int 1, .ref 26, .int 0, .int 0, .int 0, .int 0], vm := .none },
  { cls := 21, slots := #[.int 11], vm := .none },
  { cls := 8, slots := #[.int 1, .ref 28, .int 0, .int 0, .int 0, .int 0], vm := .none },
  { cls := 21, slots := #[.int 12], vm := .none },
  { cls := 8, slots := #[.int 1, .ref 30, .int 0, .int 0, .int 0, .int 0], vm := .none },
  { cls := 21, slots := #[.int 13], vm := .none },
  { cls := 8, slots := #[.int 1, .ref 32, .int 0, .int 0, .int 0, .int 0], vm := .none },
  { cls := 21, slots := #[.int 14], vm := .none },
  { cls := 8, slots := #[.int 1, .ref 34, .int 0, .int 0, .int 0, .int 0], vm := .none },
  { cls := 21, slots := #[.int 15], vm := .none },
  { cls := 8, slots := #[.int 1, .ref 36, .int 0, .int 0, .int 0, .int 0], vm := .none },
  { cls := 21, slots := #[.int 16], vm := .none },
  { cls := 8, slots := #[.int (-1), .ref 38, .int 0, .int 0, .int 0, .int 0], vm := .none },
  { cls := 21, slots := #[.int 1], vm := .none },
  { cls := 8, slots := #[.int (-1), .ref 40, .int 0, .int 0, .int 0, .int 0], vm := .none },
  { cls := 21, slots := #[.int 2], vm := .none },
  { cls := 8, slots := #[.int (-1), .ref 42, .int 0, .int 0, .int 0, .int 0], vm := .none },
  { cls := 21, slots := #[.int 3], vm := .none },
  { cls := 8, slots := #[.int (-1), .ref 44, .int 0, .int 0, .int 0, .int 0], vm := .none },
  { cls := 21, slots := #[.int 4], vm := .none },
  { cls := 8, slots := #[.int (-1), .ref 46, .int 0, .int 0, .int 0, .int 0], vm := .none },
  { cls := 21, slots := #[.int 5], vm := .none },
  { cls := 8, slots := #[.int (-1), .ref 48, .int 0, .int 0, .int 0, .int 0], vm := .none },
  { cls := 21, slots := #[.int 6], vm := .none },
  { cls := 8, slots := #[.int (-1), .ref 50, .int 0, .int 0, .int 0, .int 0], vm := .none },
  { cls := 21, slots := #[.int 7], vm := .none },
  { cls := 8, slots := #[.int (-1), .ref 52, .int 0, .int 0, .int 0, .int 0], vm := .none },
  { cls := 21, slots := #[.int 8], vm := .none },
  { cls := 8, slots := #[.int (-1), .ref 54, .int 0, .int 0, .int 0, .int 0], vm := .none },
  { cls := 21, slots := #[.int 9], vm := .none },
  { cls := 8, slots := #[.int (-1), .ref 56, .int 0, .int 0, .int 0, .int 0], vm := .none },
  { cls := 21, slots := #[.int 10], vm := .none },
  { cls := 8, slots := #[.int (-1), .ref 58, .int 0, .int 0, .int 0, .int 0], vm := .none },
  { cls := 21, slots := #[.int 11], vm := .none },
  { cls := 8, slots := #[.int (-1), .ref 60, .int 0, .int 0, .int 0, .int 0], vm := .none },
  { cls := 21, slots := #[.int 12], vm := .none },
  { cls := 8, slots := #[.int (-1), .ref 62, .int 0, .int 0, .int 0, .int 0], vm := .none },
  { cls := 21, slots := #[.int 13], vm := .none },
  { cls := 8, slots := #[.int (-1), .ref 64, .int 0, .int 0, .int 0, .int 0], vm := .none },
  { cls := 21, slots := #[.int 14], vm := .none },
  { cls := 8, slots := #[.int (-1), .ref 66, .int 0, .int 0, .int 0, .int 0], vm := .none },
  { cls := 21, slots := #[.int 15], vm := .none },
  { cls := 8, slots := #[.int (-1), .ref 68, .int 0, .int 0, .int 0, .int 0], vm := .none },
  { cls := 21, slots := #[.int 16], vm := .none }]
def classes : Array Class := #[k0, k1, k2, k3, k4, k5, k6, k7, k8, k9, k10, k11, k12, k13, k14, k15, k16, k17, k18, k19, k20, k21, k22, k23, k24]
def interned : List (Array UInt16 × Addr) := []
def slotsUsed : Nat := 301
def theMethod : MethodId := ⟨1, 1⟩
def args0 : Array Value := #[.int 3, .long 5, .long 7, .long 2, .long 9, .long 1]
def aboutOver (below : List Frame) : State where
  vm := { classes := classes, interned := interned.toArray }
  heap := heap
  slotsUsed := slotsUsed
  threads := #[{ frames := .invoking theMethod args0 :: below }]
def below0 : List Frame := [.native { method := ⟨0, 0⟩, args := #[] }]
def about1 : State := aboutOver below0
def p0 : Program := .bare "" "" ""
def e0 : Env := launch0.env 0 0 0
theorem w_frames : about1.frames = Frame.invoking theMethod args0 :: below0 := rfl
set_option maxRecDepth 65536 in
theorem w_args : argsFit about1.vm theMethod args0 = true := by decide +kernel
set_option maxRecDepth 65536 in
theorem w_heap : heapFits about1 = true := by decide +kernel
set_option maxRecDepth 65536 in
theorem w_runnable : about1.curStatus? = some .runnable := by decide +kernel
set_option maxRecDepth 65536 in
theorem w_alone : about1.alone = true := by decide +kernel
set_option maxRecDepth 65536 in
theorem w_named : about1.methodNamed? x = some theMethod := by decide +kernel
set_option maxRecDepth 65536 in
theorem w_hears : about1.hears theMethod below0 = true := by decide +kernel
set_option maxRecDepth 65536 in
theorem w_ripe : about1.ripe theMethod args0 below0 = true := by decide +kernel
theorem w_running : about1.status = .running := rfl
set_option maxRecDepth 65536 in
theorem w_room : about1.hasRoom e0.platform room_1 = true :=
  launch0.hasRoom_least _ room_1 (by decide +kernel) (by decide +kernel) (by decide +kernel) (by decide +kernel) (by decide +kernel) (by decide +kernel)
theorem allAtoms_all (ts : List Jvm.Cond) (a : Array Jvm.Value) (st : Jvm.State) : (allAtoms ts).before a st = ts.all (fun c => c.before a st) := by
  induction ts with
  | nil => rfl
  | cons c t ih =>
    show (Jvm.Cond.and c (allAtoms t)).before a st = _
    rw [Jvm.Cond.before_and, ih, List.all_cons]
def words1 : List Jvm.Cond := Jvm.Cond.code x code maxLocals ret :: tables_1
/-- a 'code' word, met by the world's own term for the bytes: nothing is compared byte by byte -/
theorem code_word {y : MethodName} {bytes : ByteArray} {mx : Nat} {rt : Option FieldType} {a : Array Value} {s : State} {m : MethodId} {meth : Method} {c : Code} (h1 : s.methodNamed? y = some m) (h2 : s.vm.method? m = some meth) (h3 : meth.code = some c) (h4 : c.code = bytes)
    (h5 : (c.maxLocals == mx && c.exceptionTable.isEmpty && decide (c.maxStack ≤ mostOperands) && decide (meth.sig.returnType = rt) && !meth.locks && decide (parseMethodDescriptor y.desc = some meth.sig)) = true) : (Jvm.Cond.code y bytes mx rt).before a s = true := by
  simp only [Bool.and_eq_true, beq_iff_eq, Bool.not_eq_true', decide_eq_true_eq] at h5
  obtain ⟨⟨⟨⟨⟨g1, g2⟩, g3⟩, g4⟩, g5⟩, g6⟩ := h5
  simp [Cond.before, Cond.holds, Cond.value, h1, h2, h3, h4, g1, g2, g3, g4, g5, g6]
def isCode : Jvm.Cond → Bool
  | .code _ _ _ _ => true
  | _ => false
theorem all_split {L : List Jvm.Cond} {P : Jvm.Cond → Bool} (h1 : L.all (fun c => isCode c || P c) = true) (h2 : ∀ c ∈ L.filter isCode, P c = true) : L.all P = true := by
  refine List.all_eq_true.mpr fun c hc => ?_
  have h := List.all_eq_true.mp h1 c hc
  rcases Bool.eq_false_or_eq_true (isCode c) with hi | hi
  · exact h2 c (List.mem_filter.mpr ⟨hc, hi⟩)
  · simpa [hi] using h
set_option maxRecDepth 65536 in
theorem w_c0 : (Jvm.Cond.code x code maxLocals ret).before args0 about1 = true := code_word (m := ⟨1, 1⟩) (meth := k1m1) (c := k1c1) (by decide +kernel) rfl rfl rfl (by decide +kernel)
set_option maxRecDepth 65536 in
theorem w_c1 : (Jvm.Cond.code ({ cls := "com/example/dendrocover/dendrocover/Network", name := "<init>", desc := "(II[I[I[I)V" } : Jvm.MethodName) prog_20_method_1_code (8 : Nat) (Option.none : Option Jvm.ClassFile.FieldType)).before args0 about1 = true := code_word (m := ⟨2, 0⟩) (meth := k2m0) (c := k2c0) (by decide +kernel) rfl rfl rfl (by decide +kernel)
set_option maxRecDepth 65536 in
theorem w_c2 : (Jvm.Cond.code ({ cls := "java/lang/Object", name := "<init>", desc := "()V" } : Jvm.MethodName) object_method_1_code (1 : Nat) (Option.none : Option Jvm.ClassFile.FieldType)).before args0 about1 = true := code_word (m := ⟨0, 0⟩) (meth := k0m0) (c := k0c0) (by decide +kernel) rfl rfl rfl (by decide +kernel)
set_option maxRecDepth 65536 in
theorem w_c3 : (Jvm.Cond.code ({ cls := "com/example/dendrocover/dendrocover/Placement", name := "<init>", desc := "(Lcom/example/dendrocover/dendrocover/Network;JJ)V" } : Jvm.MethodName) prog_27_method_1_code (6 : Nat) (Option.none : Option Jvm.ClassFile.FieldType)).before args0 about1 = true := code_word (m := ⟨3, 0⟩) (meth := k3m0) (c := k3c0) (by decide +kernel) rfl rfl rfl (by decide +kernel)
set_option maxRecDepth 65536 in
theorem w_c4 : (Jvm.Cond.code ({ cls := "com/example/dendrocover/dendrocover/Network", name := "vertexCount", desc := "()I" } : Jvm.MethodName) prog_20_method_2_code (1 : Nat) (Option.some Jvm.ClassFile.FieldType.int)).before args0 about1 = true := code_word (m := ⟨2, 1⟩) (meth := k2m1) (c := k2c1) (by decide +kernel) rfl rfl rfl (by decide +kernel)
set_option maxRecDepth 65536 in
theorem w_c5 : (Jvm.Cond.code ({ cls := "com/example/dendrocover/dendrocover/Network", name := "roadCount", desc := "()I" } : Jvm.MethodName) prog_20_method_3_code (1 : Nat) (Option.some Jvm.ClassFile.FieldType.int)).before args0 about1 = true := code_word (m := ⟨2, 2⟩) (meth := k2m2) (c := k2c2) (by decide +kernel) rfl rfl rfl (by decide +kernel)
set_option maxRecDepth 65536 in
theorem w_c6 : (Jvm.Cond.code ({ cls := "com/example/dendrocover/dendrocover/Placement", name := "addRow", desc := "(IJJ)V" } : Jvm.MethodName) prog_27_method_3_code (6 : Nat) (Option.none : Option Jvm.ClassFile.FieldType)).before args0 about1 = true := code_word (m := ⟨3, 1⟩) (meth := k3m1) (c := k3c1) (by decide +kernel) rfl rfl rfl (by decide +kernel)
set_option maxRecDepth 65536 in
theorem w_c7 : (Jvm.Cond.code ({ cls := "com/example/dendrocover/dendrocover/Placement", name := "count", desc := "()J" } : Jvm.MethodName) prog_27_method_5_code (1 : Nat) (Option.some Jvm.ClassFile.FieldType.long)).before args0 about1 = true := code_word (m := ⟨3, 2⟩) (meth := k3m2) (c := k3c2) (by decide +kernel) rfl rfl rfl (by decide +kernel)
set_option maxRecDepth 65536 in
theorem w_c8 : (Jvm.Cond.code ({ cls := "com/example/dendrocover/dendrocover/Placement", name := "centersOn", desc := "(I)J" } : Jvm.MethodName) prog_27_method_7_code (2 : Nat) (Option.some Jvm.ClassFile.FieldType.long)).before args0 about1 = true := code_word (m := ⟨3, 3⟩) (meth := k3m3) (c := k3c3) (by decide +kernel) rfl rfl rfl (by decide +kernel)
set_option maxRecDepth 65536 in
theorem w_c9 : (Jvm.Cond.code ({ cls := "com/example/dendrocover/dendrocover/Placement", name := "position", desc := "(IJ)Lcom/example/dendrocover/dendrocover/Rational;" } : Jvm.MethodName) prog_27_method_8_code (4 : Nat) (Option.some (Jvm.ClassFile.FieldType.object "com/example/dendrocover/dendrocover/Rational"))).before args0 about1 = true := code_word (m := ⟨3, 4⟩) (meth := k3m4) (c := k3c4) (by decide +kernel) rfl rfl rfl (by decide +kernel)
set_option maxRecDepth 65536 in
theorem w_c10 : (Jvm.Cond.code ({ cls := "com/example/dendrocover/dendrocover/Rational", name := "of", desc := "(JJ)Lcom/example/dendrocover/dendrocover/Rational;" } : Jvm.MethodName) prog_30_method_3_code (4 : Nat) (Option.some (Jvm.ClassFile.FieldType.object "com/example/dendrocover/dendrocover/Rational"))).before args0 about1 = true := code_word (m := ⟨5, 2⟩) (meth := k5m2) (c := k5c2) (by decide +kernel) rfl rfl rfl (by decide +kernel)
set_option maxRecDepth 65536 in
theorem w_c11 : (Jvm.Cond.code ({ cls := "java/math/BigInteger", name := "valueOf", desc := "(J)Ljava/math/BigInteger;" } : Jvm.MethodName) jdk_2097_method_29_code (2 : Nat) (Option.some (Jvm.ClassFile.FieldType.object "java/math/BigInteger"))).before args0 about1 = true := code_word (m := ⟨8, 1⟩) (meth := k8m1) (c := k8c1) (by decide +kernel) rfl rfl rfl (by decide +kernel)
set_option maxRecDepth 65536 in
theorem w_c12 : (Jvm.Cond.code ({ cls := "com/example/dendrocover/dendrocover/Rational", name := "reduced", desc := "(Ljava/math/BigInteger;Ljava/math/BigInteger;)Lcom/example/dendrocover/dendrocover/Rational;" } : Jvm.MethodName) prog_30_method_5_code (3 : Nat) (Option.some (Jvm.ClassFile.FieldType.object "com/example/dendrocover/dendrocover/Rational"))).before args0 about1 = true := code_word (m := ⟨5, 3⟩) (meth := k5m3) (c := k5c3) (by decide +kernel) rfl rfl rfl (by decide +kernel)
set_option maxRecDepth 65536 in
theorem w_c13 : (Jvm.Cond.code ({ cls := "java/math/BigInteger", name := "signum", desc := "()I" } : Jvm.MethodName) jdk_2097_method_81_code (1 : Nat) (Option.some Jvm.ClassFile.FieldType.int)).before args0 about1 = true := code_word (m := ⟨8, 8⟩) (meth := k8m8) (c := k8c8) (by decide +kernel) rfl rfl rfl (by decide +kernel)
set_option maxRecDepth 65536 in
theorem w_c14 : (Jvm.Cond.code ({ cls := "java/math/BigInteger", name := "gcd", desc := "(Ljava/math/BigInteger;)Ljava/math/BigInteger;" } : Jvm.MethodName) jdk_2097_method_73_code (5 : Nat) (Option.some (Jvm.ClassFile.FieldType.object "java/math/BigInteger"))).before args0 about1 = true := code_word (m := ⟨8, 5⟩) (meth := k8m5) (c := k8c5) (by decide +kernel) rfl rfl rfl (by decide +kernel)
set_option maxRecDepth 65536 in
theorem w_c15 : (Jvm.Cond.code ({ cls := "java/math/MutableBigInteger", name := "<init>", desc := "(Ljava/math/BigInteger;)V" } : Jvm.MethodName) jdk_2101_method_4_code (2 : Nat) (Option.none : Option Jvm.ClassFile.FieldType)).before args0 about1 = true := code_word (m := ⟨9, 2⟩) (meth := k9m2) (c := k9c2) (by decide +kernel) rfl rfl rfl (by decide +kernel)
set_option maxRecDepth 65536 in
theorem w_c16 : (Jvm.Cond.code ({ cls := "java/util/Arrays", name := "copyOf", desc := "([II)[I" } : Jvm.MethodName) jdk_65_method_123_code (3 : Nat) (Option.some (Jvm.ClassFile.FieldType.array Jvm.ClassFile.FieldType.int))).before args0 about1 = true := code_word (m := ⟨10, 1⟩) (meth := k10m1) (c := k10c1) (by decide +kernel) rfl rfl rfl (by decide +kernel)
set_option maxRecDepth 65536 in
theorem w_c17 : (Jvm.Cond.code ({ cls := "java/math/MutableBigInteger", name := "hybridGCD", desc := "(Ljava/math/MutableBigInteger;)Ljava/math/MutableBigInteger;" } : Jvm.MethodName) jdk_2101_method_72_code (5 : Nat) (Option.some (Jvm.ClassFile.FieldType.object "java/math/MutableBigInteger"))).before args0 about1 = true := code_word (m := ⟨9, 15⟩) (meth := k9m15) (c := k9c15) (by decide +kernel) rfl rfl rfl (by decide +kernel)
set_option maxRecDepth 65536 in
theorem w_c18 : (Jvm.Cond.code ({ cls := "java/math/MutableBigInteger", name := "<init>", desc := "()V" } : Jvm.MethodName) jdk_2101_method_1_code (1 : Nat) (Option.none : Option Jvm.ClassFile.FieldType)).before args0 about1 = true := code_word (m := ⟨9, 0⟩) (meth := k9m0) (c := k9c0) (by decide +kernel) rfl rfl rfl (by decide +kernel)
set_option maxRecDepth 65536 in
theorem w_c19 : (Jvm.Cond.code ({ cls := "java/lang/Math", name := "abs", desc := "(I)I" } : Jvm.MethodName) jdk_29_method_59_code (1 : Nat) (Option.some Jvm.ClassFile.FieldType.int)).before args0 about1 = true := code_word (m := ⟨12, 1⟩) (meth := k12m1) (c := k12c1) (by decide +kernel) rfl rfl rfl (by decide +kernel)
set_option maxRecDepth 65536 in
theorem w_c20 : (Jvm.Cond.code ({ cls := "java/math/MutableBigInteger", name := "binaryGCD", desc := "(Ljava/math/MutableBigInteger;)Ljava/math/MutableBigInteger;" } : Jvm.MethodName) jdk_2101_method_73_code (13 : Nat) (Option.some (Jvm.ClassFile.FieldType.object "java/math/MutableBigInteger"))).before args0 about1 = true := code_word (m := ⟨9, 16⟩) (meth := k9m16) (c := k9c16) (by decide +kernel) rfl rfl rfl (by decide +kernel)
set_option maxRecDepth 65536 in
theorem w_c21 : (Jvm.Cond.code ({ cls := "java/math/MutableBigInteger", name := "getLowestSetBit", desc := "()I" } : Jvm.MethodName) jdk_2101_method_18_code (3 : Nat) (Option.some Jvm.ClassFile.FieldType.int)).before args0 about1 = true := code_word (m := ⟨9, 7⟩) (meth := k9m7) (c := k9c7) (by decide +kernel) rfl rfl rfl (by decide +kernel)
set_option maxRecDepth 65536 in
theorem w_c22 : (Jvm.Cond.code ({ cls := "java/lang/Integer", name := "numberOfTrailingZeros", desc := "(I)I" } : Jvm.MethodName) jdk_33_method_48_code (2 : Nat) (Option.some Jvm.ClassFile.FieldType.int)).before args0 about1 = true := code_word (m := ⟨15, 1⟩) (meth := k15m1) (c := k15c1) (by decide +kernel) rfl rfl rfl (by decide +kernel)
set_option maxRecDepth 65536 in
theorem w_c23 : (Jvm.Cond.code ({ cls := "java/math/MutableBigInteger", name := "rightShift", desc := "(I)V" } : Jvm.MethodName) jdk_2101_method_35_code (5 : Nat) (Option.none : Option Jvm.ClassFile.FieldType)).before args0 about1 = true := code_word (m := ⟨9, 9⟩) (meth := k9m9) (c := k9c9) (by decide +kernel) rfl rfl rfl (by decide +kernel)
set_option maxRecDepth 65536 in
theorem w_c24 : (Jvm.Cond.code ({ cls := "java/math/BigInteger", name := "bitLengthForInt", desc := "(I)I" } : Jvm.MethodName) jdk_2097_method_74_code (1 : Nat) (Option.some Jvm.ClassFile.FieldType.int)).before args0 about1 = true := code_word (m := ⟨8, 6⟩) (meth := k8m6) (c := k8c6) (by decide +kernel) rfl rfl rfl (by decide +kernel)
set_option maxRecDepth 65536 in
theorem w_c25 : (Jvm.Cond.code ({ cls := "java/lang/Integer", name := "numberOfLeadingZeros", desc := "(I)I" } : Jvm.MethodName) jdk_33_method_47_code (2 : Nat) (Option.some Jvm.ClassFile.FieldType.int)).before args0 about1 = true := code_word (m := ⟨15, 0⟩) (meth := k15m0) (c := k15c0) (by decide +kernel) rfl rfl rfl (by decide +kernel)
set_option maxRecDepth 65536 in
theorem w_c26 : (Jvm.Cond.code ({ cls := "java/math/MutableBigInteger", name := "primitiveRightShift", desc := "(I)V" } : Jvm.MethodName) jdk_2101_method_41_code (7 : Nat) (Option.none : Option Jvm.ClassFile.FieldType)).before args0 about1 = true := code_word (m := ⟨9, 10⟩) (meth := k9m10) (c := k9c10) (by decide +kernel) rfl rfl rfl (by decide +kernel)
set_option maxRecDepth 65536 in
theorem w_c27 : (Jvm.Cond.code ({ cls := "java/math/MutableBigInteger", name := "binaryGcd", desc := "(II)I" } : Jvm.MethodName) jdk_2101_method_74_code (5 : Nat) (Option.some Jvm.ClassFile.FieldType.int)).before args0 about1 = true := code_word (m := ⟨9, 17⟩) (meth := k9m17) (c := k9c17) (by decide +kernel) rfl rfl rfl (by decide +kernel)
set_option maxRecDepth 65536 in
theorem w_c28 : (Jvm.Cond.code ({ cls := "java/math/MutableBigInteger", name := "toBigInteger", desc := "(I)Ljava/math/BigInteger;" } : Jvm.MethodName) jdk_2101_method_9_code (2 : Nat) (Option.some (Jvm.ClassFile.FieldType.object "java/math/BigInteger"))).before args0 about1 = true := code_word (m := ⟨9, 4⟩) (meth := k9m4) (c := k9c4) (by decide +kernel) rfl rfl rfl (by decide +kernel)
set_option maxRecDepth 65536 in
theorem w_c29 : (Jvm.Cond.code ({ cls := "java/math/MutableBigInteger", name := "getMagnitudeArray", desc := "()[I" } : Jvm.MethodName) jdk_2101_method_7_code (2 : Nat) (Option.some (Jvm.ClassFile.FieldType.array Jvm.ClassFile.FieldType.int))).before args0 about1 = true := code_word (m := ⟨9, 3⟩) (meth := k9m3) (c := k9c3) (by decide +kernel) rfl rfl rfl (by decide +kernel)
set_option maxRecDepth 65536 in
theorem w_c30 : (Jvm.Cond.code ({ cls := "java/math/BigInteger", name := "<init>", desc := "([II)V" } : Jvm.MethodName) jdk_2097_method_25_code (3 : Nat) (Option.none : Option Jvm.ClassFile.FieldType)).before args0 about1 = true := code_word (m := ⟨8, 0⟩) (meth := k8m0) (c := k8c0) (by decide +kernel) rfl rfl rfl (by decide +kernel)
set_option maxRecDepth 65536 in
theorem w_c31 : (Jvm.Cond.code ({ cls := "java/lang/Number", name := "<init>", desc := "()V" } : Jvm.MethodName) jdk_18_method_1_code (1 : Nat) (Option.none : Option Jvm.ClassFile.FieldType)).before args0 about1 = true := code_word (m := ⟨7, 0⟩) (meth := k7m0) (c := k7c0) (by decide +kernel) rfl rfl rfl (by decide +kernel)
set_option maxRecDepth 65536 in
theorem w_c32 : (Jvm.Cond.code ({ cls := "java/math/BigInteger", name := "divide", desc := "(Ljava/math/BigInteger;)Ljava/math/BigInteger;" } : Jvm.MethodName) jdk_2097_method_61_code (2 : Nat) (Option.some (Jvm.ClassFile.FieldType.object "java/math/BigInteger"))).before args0 about1 = true := code_word (m := ⟨8, 3⟩) (meth := k8m3) (c := k8c3) (by decide +kernel) rfl rfl rfl (by decide +kernel)
set_option maxRecDepth 65536 in
theorem w_c33 : (Jvm.Cond.code ({ cls := "java/math/BigInteger", name := "divideKnuth", desc := "(Ljava/math/BigInteger;)Ljava/math/BigInteger;" } : Jvm.MethodName) jdk_2097_method_62_code (5 : Nat) (Option.some (Jvm.ClassFile.FieldType.object "java/math/BigInteger"))).before args0 about1 = true := code_word (m := ⟨8, 4⟩) (meth := k8m4) (c := k8c4) (by decide +kernel) rfl rfl rfl (by decide +kernel)
set_option maxRecDepth 65536 in
theorem w_c34 : (Jvm.Cond.code ({ cls := "java/math/MutableBigInteger", name := "<init>", desc := "([I)V" } : Jvm.MethodName) jdk_2101_method_3_code (2 : Nat) (Option.none : Option Jvm.ClassFile.FieldType)).before args0 about1 = true := code_word (m := ⟨9, 1⟩) (meth := k9m1) (c := k9c1) (by decide +kernel) rfl rfl rfl (by decide +kernel)
set_option maxRecDepth 65536 in
theorem w_c35 : (Jvm.Cond.code ({ cls := "java/math/MutableBigInteger", name := "divideKnuth", desc := "(Ljava/math/MutableBigInteger;Ljava/math/MutableBigInteger;Z)Ljava/math/MutableBigInteger;" } : Jvm.MethodName) jdk_2101_method_57_code (8 : Nat) (Option.some (Jvm.ClassFile.FieldType.object "java/math/MutableBigInteger"))).before args0 about1 = true := code_word (m := ⟨9, 14⟩) (meth := k9m14) (c := k9c14) (by decide +kernel) rfl rfl rfl (by decide +kernel)
set_option maxRecDepth 65536 in
theorem w_c36 : (Jvm.Cond.code ({ cls := "java/math/MutableBigInteger", name := "compare", desc := "(Ljava/math/MutableBigInteger;)I" } : Jvm.MethodName) jdk_2101_method_15_code (8 : Nat) (Option.some Jvm.ClassFile.FieldType.int)).before args0 about1 = true := code_word (m := ⟨9, 6⟩) (meth := k9m6) (c := k9c6) (by decide +kernel) rfl rfl rfl (by decide +kernel)
set_option maxRecDepth 65536 in
theorem w_c37 : (Jvm.Cond.code ({ cls := "java/math/MutableBigInteger", name := "clear", desc := "()V" } : Jvm.MethodName) jdk_2101_method_13_code (3 : Nat) (Option.none : Option Jvm.ClassFile.FieldType)).before args0 about1 = true := code_word (m := ⟨9, 5⟩) (meth := k9m5) (c := k9c5) (by decide +kernel) rfl rfl rfl (by decide +kernel)
set_option maxRecDepth 65536 in
theorem w_c38 : (Jvm.Cond.code ({ cls := "java/math/MutableBigInteger", name := "divideOneWord", desc := "(ILjava/math/MutableBigInteger;)I" } : Jvm.MethodName) jdk_2101_method_53_code (15 : Nat) (Option.some Jvm.ClassFile.FieldType.int)).before args0 about1 = true := code_word (m := ⟨9, 13⟩) (meth := k9m13) (c := k9c13) (by decide +kernel) rfl rfl rfl (by decide +kernel)
set_option maxRecDepth 65536 in
theorem w_c39 : (Jvm.Cond.code ({ cls := "com/example/dendrocover/dendrocover/Rational", name := "<init>", desc := "(Ljava/math/BigInteger;Ljava/math/BigInteger;)V" } : Jvm.MethodName) prog_30_method_1_code (3 : Nat) (Option.none : Option Jvm.ClassFile.FieldType)).before args0 about1 = true := code_word (m := ⟨5, 0⟩) (meth := k5m0) (c := k5c0) (by decide +kernel) rfl rfl rfl (by decide +kernel)
set_option maxRecDepth 65536 in
theorem w_c40 : (Jvm.Cond.code ({ cls := "com/example/dendrocover/dendrocover/Rational", name := "of", desc := "(J)Lcom/example/dendrocover/dendrocover/Rational;" } : Jvm.MethodName) prog_30_method_2_code (2 : Nat) (Option.some (Jvm.ClassFile.FieldType.object "com/example/dendrocover/dendrocover/Rational"))).before args0 about1 = true := code_word (m := ⟨5, 1⟩) (meth := k5m1) (c := k5c1) (by decide +kernel) rfl rfl rfl (by decide +kernel)
set_option maxRecDepth 65536 in
theorem w_c41 : (Jvm.Cond.code ({ cls := "com/example/dendrocover/dendrocover/Rational", name := "equals", desc := "(Ljava/lang/Object;)Z" } : Jvm.MethodName) prog_30_method_16_code (3 : Nat) (Option.some Jvm.ClassFile.FieldType.boolean)).before args0 about1 = true := code_word (m := ⟨5, 4⟩) (meth := k5m4) (c := k5c4) (by decide +kernel) rfl rfl rfl (by decide +kernel)
set_option maxRecDepth 65536 in
theorem w_c42 : (Jvm.Cond.code ({ cls := "java/math/BigInteger", name := "equals", desc := "(Ljava/lang/Object;)Z" } : Jvm.MethodName) jdk_2097_method_124_code (7 : Nat) (Option.some Jvm.ClassFile.FieldType.boolean)).before args0 about1 = true := code_word (m := ⟨8, 9⟩) (meth := k8m9) (c := k8c9) (by decide +kernel) rfl rfl rfl (by decide +kernel)
set_option maxRecDepth 65536 in
theorem w_c43 : (Jvm.Cond.code ({ cls := "java/math/BigInteger", name := "<init>", desc := "(J)V" } : Jvm.MethodName) jdk_2097_method_30_code (4 : Nat) (Option.none : Option Jvm.ClassFile.FieldType)).before args0 about1 = true := code_word (m := ⟨8, 2⟩) (meth := k8m2) (c := k8c2) (by decide +kernel) rfl rfl rfl (by decide +kernel)
set_option maxRecDepth 65536 in
theorem w_c44 : (Jvm.Cond.code ({ cls := "java/math/MutableBigInteger", name := "difference", desc := "(Ljava/math/MutableBigInteger;)I" } : Jvm.MethodName) jdk_2101_method_50_code (8 : Nat) (Option.some Jvm.ClassFile.FieldType.int)).before args0 about1 = true := code_word (m := ⟨9, 12⟩) (meth := k9m12) (c := k9c12) (by decide +kernel) rfl rfl rfl (by decide +kernel)
set_option maxRecDepth 65536 in
theorem w_c45 : (Jvm.Cond.code ({ cls := "java/math/MutableBigInteger", name := "normalize", desc := "()V" } : Jvm.MethodName) jdk_2101_method_21_code (4 : Nat) (Option.none : Option Jvm.ClassFile.FieldType)).before args0 about1 = true := code_word (m := ⟨9, 8⟩) (meth := k9m8) (c := k9c8) (by decide +kernel) rfl rfl rfl (by decide +kernel)
set_option maxRecDepth 65536 in
theorem w_c46 : (Jvm.Cond.code ({ cls := "java/math/MutableBigInteger", name := "primitiveLeftShift", desc := "(I)V" } : Jvm.MethodName) jdk_2101_method_42_code (8 : Nat) (Option.none : Option Jvm.ClassFile.FieldType)).before args0 about1 = true := code_word (m := ⟨9, 11⟩) (meth := k9m11) (c := k9c11) (by decide +kernel) rfl rfl rfl (by decide +kernel)
set_option maxRecDepth 65536 in
theorem w_c47 : (Jvm.Cond.code ({ cls := "java/math/BigInteger", name := "abs", desc := "()Ljava/math/BigInteger;" } : Jvm.MethodName) jdk_2097_method_79_code (1 : Nat) (Option.some (Jvm.ClassFile.FieldType.object "java/math/BigInteger"))).before args0 about1 = true := code_word (m := ⟨8, 7⟩) (meth := k8m7) (c := k8c7) (by decide +kernel) rfl rfl rfl (by decide +kernel)
def codes1 : List Jvm.Cond := [Jvm.Cond.code x code maxLocals ret, Jvm.Cond.code ({ cls := "com/example/dendrocover/dendrocover/Network", name := "<init>", desc := "(II[I[I[I)V" } : Jvm.MethodName) prog_20_method_1_code (8 : Nat) (Option.none : Option Jvm.ClassFile.FieldType), Jvm.Cond.code ({ cls := "java/lang/Object", name := "<init>", desc := "()V" } : Jvm.MethodName) object_method_1_code (1 : Nat) (Option.none : Option Jvm.ClassFile.FieldType), Jvm.Cond.code ({ cls := "com/example/dendrocover/dendrocover/Placement", name := "<init>", desc := "(Lcom/example/dendrocover/dendrocover/Network;JJ)V" } : Jvm.MethodName) prog_27_method_1_code (6 : Nat) (Option.none : Option Jvm.ClassFile.FieldType), Jvm.Cond.code ({ cls := "com/example/dendrocover/dendrocover/Network", name := "vertexCount", desc := "()I" } : Jvm.MethodName) prog_20_method_2_code (1 : Nat) (Option.some Jvm.ClassFile.FieldType.int), Jvm.Cond.code ({ cls := "com/example/dendrocover/dendrocover/Network", name := "roadCount", desc := "()I" } : Jvm.MethodName) prog_20_method_3_code (1 : Nat) (Option.some Jvm.ClassFile.FieldType.int), Jvm.Cond.code ({ cls := "com/example/dendrocover/dendrocover/Placement", name := "addRow", desc := "(IJJ)V" } : Jvm.MethodName) prog_27_method_3_code (6 : Nat) (Option.none : Option Jvm.ClassFile.FieldType), Jvm.Cond.code ({ cls := "com/example/dendrocover/dendrocover/Placement", name := "count", desc := "()J" } : Jvm.MethodName) prog_27_method_5_code (1 : Nat) (Option.some Jvm.ClassFile.FieldType.long), Jvm.Cond.code ({ cls := "com/example/dendrocover/dendrocover/Placement", name := "centersOn", desc := "(I)J" } : Jvm.MethodName) prog_27_method_7_code (2 : Nat) (Option.some Jvm.ClassFile.FieldType.long), Jvm.Cond.code ({ cls := "com/example/dendrocover/dendrocover/Placement", name := "position", desc := "(IJ)Lcom/example/dendrocover/dendrocover/Rational;" } : Jvm.MethodName) prog_27_method_8_code (4 : Nat) (Option.some (Jvm.ClassFile.FieldType.object "com/example/dendrocover/dendrocover/Rational")), Jvm.Cond.code ({ cls := "com/example/dendrocover/dendrocover/Rational", name := "of", desc := "(JJ)Lcom/example/dendrocover/dendrocover/Rational;" } : Jvm.MethodName) prog_30_method_3_code (4 : Nat) (Option.some (Jvm.ClassFile.FieldType.object "com/example/dendrocover/dendrocover/Rational")), Jvm.Cond.code ({ cls := "java/math/BigInteger", name := "valueOf", desc := "(J)Ljava/math/BigInteger;" } : Jvm.MethodName) jdk_2097_method_29_code (2 : Nat) (Option.some (Jvm.ClassFile.FieldType.object "java/math/BigInteger")), Jvm.Cond.code ({ cls := "com/example/dendrocover/dendrocover/Rational", name := "reduced", desc := "(Ljava/math/BigInteger;Ljava/math/BigInteger;)Lcom/example/dendrocover/dendrocover/Rational;" } : Jvm.MethodName) prog_30_method_5_code (3 : Nat) (Option.some (Jvm.ClassFile.FieldType.object "com/example/dendrocover/dendrocover/Rational")), Jvm.Cond.code ({ cls := "java/math/BigInteger", name := "signum", desc := "()I" } : Jvm.MethodName) jdk_2097_method_81_code (1 : Nat) (Option.some Jvm.ClassFile.FieldType.int), Jvm.Cond.code ({ cls := "java/math/BigInteger", name := "gcd", desc := "(Ljava/math/BigInteger;)Ljava/math/BigInteger;" } : Jvm.MethodName) jdk_2097_method_73_code (5 : Nat) (Option.some (Jvm.ClassFile.FieldType.object "java/math/BigInteger")), Jvm.Cond.code ({ cls := "java/math/MutableBigInteger", name := "<init>", desc := "(Ljava/math/BigInteger;)V" } : Jvm.MethodName) jdk_2101_method_4_code (2 : Nat) (Option.none : Option Jvm.ClassFile.FieldType), Jvm.Cond.code ({ cls := "java/util/Arrays", name := "copyOf", desc := "([II)[I" } : Jvm.MethodName) jdk_65_method_123_code (3 : Nat) (Option.some (Jvm.ClassFile.FieldType.array Jvm.ClassFile.FieldType.int)), Jvm.Cond.code ({ cls := "java/math/MutableBigInteger", name := "hybridGCD", desc := "(Ljava/math/MutableBigInteger;)Ljava/math/MutableBigInteger;" } : Jvm.MethodName) jdk_2101_method_72_code (5 : Nat) (Option.some (Jvm.ClassFile.FieldType.object "java/math/MutableBigInteger")), Jvm.Cond.code ({ cls := "java/math/MutableBigInteger", name := "<init>", desc := "()V" } : Jvm.MethodName) jdk_2101_method_1_code (1 : Nat) (Option.none : Option Jvm.ClassFile.FieldType), Jvm.Cond.code ({ cls := "java/lang/Math", name := "abs", desc := "(I)I" } : Jvm.MethodName) jdk_29_method_59_code (1 : Nat) (Option.some Jvm.ClassFile.FieldType.int), Jvm.Cond.code ({ cls := "java/math/MutableBigInteger", name := "binaryGCD", desc := "(Ljava/math/MutableBigInteger;)Ljava/math/MutableBigInteger;" } : Jvm.MethodName) jdk_2101_method_73_code (13 : Nat) (Option.some (Jvm.ClassFile.FieldType.object "java/math/MutableBigInteger")), Jvm.Cond.code ({ cls := "java/math/MutableBigInteger", name := "getLowestSetBit", desc := "()I" } : Jvm.MethodName) jdk_2101_method_18_code (3 : Nat) (Option.some Jvm.ClassFile.FieldType.int), Jvm.Cond.code ({ cls := "java/lang/Integer", name := "numberOfTrailingZeros", desc := "(I)I" } : Jvm.MethodName) jdk_33_method_48_code (2 : Nat) (Option.some Jvm.ClassFile.FieldType.int), Jvm.Cond.code ({ cls := "java/math/MutableBigInteger", name := "rightShift", desc := "(I)V" } : Jvm.MethodName) jdk_2101_method_35_code (5 : Nat) (Option.none : Option Jvm.ClassFile.FieldType), Jvm.Cond.code ({ cls := "java/math/BigInteger", name := "bitLengthForInt", desc := "(I)I" } : Jvm.MethodName) jdk_2097_method_74_code (1 : Nat) (Option.some Jvm.ClassFile.FieldType.int), Jvm.Cond.code ({ cls := "java/lang/Integer", name := "numberOfLeadingZeros", desc := "(I)I" } : Jvm.MethodName) jdk_33_method_47_code (2 : Nat) (Option.some Jvm.ClassFile.FieldType.int), Jvm.Cond.code ({ cls := "java/math/MutableBigInteger", name := "primitiveRightShift", desc := "(I)V" } : Jvm.MethodName) jdk_2101_method_41_code (7 : Nat) (Option.none : Option Jvm.ClassFile.FieldType), Jvm.Cond.code ({ cls := "java/math/MutableBigInteger", name := "binaryGcd", desc := "(II)I" } : Jvm.MethodName) jdk_2101_method_74_code (5 : Nat) (Option.some Jvm.ClassFile.FieldType.int), Jvm.Cond.code ({ cls := "java/math/MutableBigInteger", name := "toBigInteger", desc := "(I)Ljava/math/BigInteger;" } : Jvm.MethodName) jdk_2101_method_9_code (2 : Nat) (Option.some (Jvm.ClassFile.FieldType.object "java/math/BigInteger")), Jvm.Cond.code ({ cls := "java/math/MutableBigInteger", name := "getMagnitudeArray", desc := "()[I" } : Jvm.MethodName) jdk_2101_method_7_code (2 : Nat) (Option.some (Jvm.ClassFile.FieldType.array Jvm.ClassFile.FieldType.int)), Jvm.Cond.code ({ cls := "java/math/BigInteger", name := "<init>", desc := "([II)V" } : Jvm.MethodName) jdk_2097_method_25_code (3 : Nat) (Option.none : Option Jvm.ClassFile.FieldType), Jvm.Cond.code ({ cls := "java/lang/Number", name := "<init>", desc := "()V" } : Jvm.MethodName) jdk_18_method_1_code (1 : Nat) (Option.none : Option Jvm.ClassFile.FieldType), Jvm.Cond.code ({ cls := "java/math/BigInteger", name := "divide", desc := "(Ljava/math/BigInteger;)Ljava/math/BigInteger;" } : Jvm.MethodName) jdk_2097_method_61_code (2 : Nat) (Option.some (Jvm.ClassFile.FieldType.object "java/math/BigInteger")), Jvm.Cond.code ({ cls := "java/math/BigInteger", name := "divideKnuth", desc := "(Ljava/math/BigInteger;)Ljava/math/BigInteger;" } : Jvm.MethodName) jdk_2097_method_62_code (5 : Nat) (Option.some (Jvm.ClassFile.FieldType.object "java/math/BigInteger")), Jvm.Cond.code ({ cls := "java/math/MutableBigInteger", name := "<init>", desc := "([I)V" } : Jvm.MethodName) jdk_2101_method_3_code (2 : Nat) (Option.none : Option Jvm.ClassFile.FieldType), Jvm.Cond.code ({ cls := "java/math/MutableBigInteger", name := "divideKnuth", desc := "(Ljava/math/MutableBigInteger;Ljava/math/MutableBigInteger;Z)Ljava/math/MutableBigInteger;" } : Jvm.MethodName) jdk_2101_method_57_code (8 : Nat) (Option.some (Jvm.ClassFile.FieldType.object "java/math/MutableBigInteger")), Jvm.Cond.code ({ cls := "java/math/MutableBigInteger", name := "compare", desc := "(Ljava/math/MutableBigInteger;)I" } : Jvm.MethodName) jdk_2101_method_15_code (8 : Nat) (Option.some Jvm.ClassFile.FieldType.int), Jvm.Cond.code ({ cls := "java/math/MutableBigInteger", name := "clear", desc := "()V" } : Jvm.MethodName) jdk_2101_method_13_code (3 : Nat) (Option.none : Option Jvm.ClassFile.FieldType), Jvm.Cond.code ({ cls := "java/math/MutableBigInteger", name := "divideOneWord", desc := "(ILjava/math/MutableBigInteger;)I" } : Jvm.MethodName) jdk_2101_method_53_code (15 : Nat) (Option.some Jvm.ClassFile.FieldType.int), Jvm.Cond.code ({ cls := "com/example/dendrocover/dendrocover/Rational", name := "<init>", desc := "(Ljava/math/BigInteger;Ljava/math/BigInteger;)V" } : Jvm.MethodName) prog_30_method_1_code (3 : Nat) (Option.none : Option Jvm.ClassFile.FieldType), Jvm.Cond.code ({ cls := "com/example/dendrocover/dendrocover/Rational", name := "of", desc := "(J)Lcom/example/dendrocover/dendrocover/Rational;" } : Jvm.MethodName) prog_30_method_2_code (2 : Nat) (Option.some (Jvm.ClassFile.FieldType.object "com/example/dendrocover/dendrocover/Rational")), Jvm.Cond.code ({ cls := "com/example/dendrocover/dendrocover/Rational", name := "equals", desc := "(Ljava/lang/Object;)Z" } : Jvm.MethodName) prog_30_method_16_code (3 : Nat) (Option.some Jvm.ClassFile.FieldType.boolean), Jvm.Cond.code ({ cls := "java/math/BigInteger", name := "equals", desc := "(Ljava/lang/Object;)Z" } : Jvm.MethodName) jdk_2097_method_124_code (7 : Nat) (Option.some Jvm.ClassFile.FieldType.boolean), Jvm.Cond.code ({ cls := "java/math/BigInteger", name := "<init>", desc := "(J)V" } : Jvm.MethodName) jdk_2097_method_30_code (4 : Nat) (Option.none : Option Jvm.ClassFile.FieldType), Jvm.Cond.code ({ cls := "java/math/MutableBigInteger", name := "difference", desc := "(Ljava/math/MutableBigInteger;)I" } : Jvm.MethodName) jdk_2101_method_50_code (8 : Nat) (Option.some Jvm.ClassFile.FieldType.int), Jvm.Cond.code ({ cls := "java/math/MutableBigInteger", name := "normalize", desc := "()V" } : Jvm.MethodName) jdk_2101_method_21_code (4 : Nat) (Option.none : Option Jvm.ClassFile.FieldType), Jvm.Cond.code ({ cls := "java/math/MutableBigInteger", name := "primitiveLeftShift", desc := "(I)V" } : Jvm.MethodName) jdk_2101_method_42_code (8 : Nat) (Option.none : Option Jvm.ClassFile.FieldType), Jvm.Cond.code ({ cls := "java/math/BigInteger", name := "abs", desc := "()Ljava/math/BigInteger;" } : Jvm.MethodName) jdk_2097_method_79_code (1 : Nat) (Option.some (Jvm.ClassFile.FieldType.object "java/math/BigInteger"))]
set_option maxRecDepth 65536 in
theorem codes_eq : words1.filter isCode = codes1 := rfl
theorem w_codes : ∀ c ∈ words1.filter isCode, c.before args0 about1 = true := by
  rw [codes_eq]
  intro c hc
  simp only [codes1, List.mem_cons, List.not_mem_nil, or_false] at hc
  rcases hc with rfl | rfl | rfl | rfl | rfl | rfl | rfl | rfl | rfl | rfl | rfl | rfl | rfl | rfl | rfl | rfl | rfl | rfl | rfl | rfl | rfl | rfl | rfl | rfl | rfl | rfl | rfl | rfl | rfl | rfl | rfl | rfl | rfl | rfl | rfl | rfl | rfl | rfl | rfl | rfl | rfl | rfl | rfl | rfl | rfl | rfl | rfl | rfl
  · exact w_c0
  · exact w_c1
  · exact w_c2
  · exact w_c3
  · exact w_c4
  · exact w_c5
  · exact w_c6
  · exact w_c7
  · exact w_c8
  · exact w_c9
  · exact w_c10
  · exact w_c11
  · exact w_c12
  · exact w_c13
  · exact w_c14
  · exact w_c15
  · exact w_c16
  · exact w_c17
  · exact w_c18
  · exact w_c19
  · exact w_c20
  · exact w_c21
  · exact w_c22
  · exact w_c23
  · exact w_c24
  · exact w_c25
  · exact w_c26
  · exact w_c27
  · exact w_c28
  · exact w_c29
  · exact w_c30
  · exact w_c31
  · exact w_c32
  · exact w_c33
  · exact w_c34
  · exact w_c35
  · exact w_c36
  · exact w_c37
  · exact w_c38
  · exact w_c39
  · exact w_c40
  · exact w_c41
  · exact w_c42
  · exact w_c43
  · exact w_c44
  · exact w_c45
  · exact w_c46
  · exact w_c47
set_option maxRecDepth 65536 in
theorem w_t1 : (words1.take 24).all (fun c => isCode c || c.before args0 about1) = true := by decide +kernel
set_option maxRecDepth 65536 in
theorem w_t2 : ((words1.drop 24).take 24).all (fun c => isCode c || c.before args0 about1) = true := by decide +kernel
set_option maxRecDepth 65536 in
theorem w_t3 : (((words1.drop 24).drop 24).take 24).all (fun c => isCode c || c.before args0 about1) = true := by decide +kernel
set_option maxRecDepth 65536 in
theorem w_t4 : ((((words1.drop 24).drop 24).drop 24).take 24).all (fun c => isCode c || c.before args0 about1) = true := by decide +kernel
set_option maxRecDepth 65536 in
theorem w_t5 : (((((words1.drop 24).drop 24).drop 24).drop 24).take 24).all (fun c => isCode c || c.before args0 about1) = true := by decide +kernel
set_option maxRecDepth 65536 in
theorem w_t6 : ((((((words1.drop 24).drop 24).drop 24).drop 24).drop 24).take 24).all (fun c => isCode c || c.before args0 about1) = true := by decide +kernel
set_option maxRecDepth 65536 in
theorem w_t7 : (((((((words1.drop 24).drop 24).drop 24).drop 24).drop 24).drop 24).take 24).all (fun c => isCode c || c.before args0 about1) = true := by decide +kernel
set_option maxRecDepth 65536 in
theorem w_t8 : ((((((((words1.drop 24).drop 24).drop 24).drop 24).drop 24).drop 24).drop 24).take 24).all (fun c => isCode c || c.before args0 about1) = true := by decide +kernel
set_option maxRecDepth 65536 in
theorem w_t9 : (((((((((words1.drop 24).drop 24).drop 24).drop 24).drop 24).drop 24).drop 24).drop 24).take 24).all (fun c => isCode c || c.before args0 about1) = true := by decide +kernel
set_option maxRecDepth 65536 in
theorem w_t10 : ((((((((((words1.drop 24).drop 24).drop 24).drop 24).drop 24).drop 24).drop 24).drop 24).drop 24).take 24).all (fun c => isCode c || c.before args0 about1) = true := by decide +kernel
set_option maxRecDepth 65536 in
theorem w_t11 : (((((((((((words1.drop 24).drop 24).drop 24).drop 24).drop 24).drop 24).drop 24).drop 24).drop 24).drop 24).take 24).all (fun c => isCode c || c.before args0 about1) = true := by decide +kernel
set_option maxRecDepth 65536 in
theorem w_t12 : ((((((((((((words1.drop 24).drop 24).drop 24).drop 24).drop 24).drop 24).drop 24).drop 24).drop 24).drop 24).drop 24).take 24).all (fun c => isCode c || c.before args0 about1) = true := by decide +kernel
set_option maxRecDepth 65536 in
theorem w_t13 : ((((((((((((words1.drop 24).drop 24).drop 24).drop 24).drop 24).drop 24).drop 24).drop 24).drop 24).drop 24).drop 24).drop 24).all (fun c => isCode c || c.before args0 about1) = true := by decide +kernel
theorem w_tables : (allAtoms (Jvm.Cond.code x code maxLocals ret :: tables_1)).before args0 about1 = true := by
  rw [allAtoms_all]
  show words1.all (fun c => c.before args0 about1) = true
  refine all_split ?_ w_codes
  rw [← List.take_append_drop 24 words1, List.all_append, w_t1, ← List.take_append_drop 24 (words1.drop 24), List.all_append, w_t2, ← List.take_append_drop 24 ((words1.drop 24).drop 24), List.all_append, w_t3, ← List.take_append_drop 24 (((words1.drop 24).drop 24).drop 24), List.all_append, w_t4, ← List.take_append_drop 24 ((((words1.drop 24).drop 24).drop 24).drop 24), List.all_append, w_t5, ← List.take_append_drop 24 (((((words1.drop 24).drop 24).drop 24).drop 24).drop 24), List.all_append, w_t6, ← List.take_append_drop 24 ((((((words1.drop 24).drop 24).drop 24).drop 24).drop 24).drop 24), List.all_append, w_t7, ← List.take_append_drop 24 (((((((words1.drop 24).drop 24).drop 24).drop 24).drop 24).drop 24).drop 24), List.all_append, w_t8, ← List.take_append_drop 24 ((((((((words1.drop 24).drop 24).drop 24).drop 24).drop 24).drop 24).drop 24).drop 24), List.all_append, w_t9, ← List.take_append_drop 24 (((((((((words1.drop 24).drop 24).drop 24).drop 24).drop 24).drop 24).drop 24).drop 24).drop 24), List.all_append, w_t10, ← List.take_append_drop 24 ((((((((((words1.drop 24).drop 24).drop 24).drop 24).drop 24).drop 24).drop 24).drop 24).drop 24).drop 24), List.all_append, w_t11, ← List.take_append_drop 24 (((((((((((words1.drop 24).drop 24).drop 24).drop 24).drop 24).drop 24).drop 24).drop 24).drop 24).drop 24).drop 24), List.all_append, w_t12, w_t13]
  rfl
set_option maxRecDepth 65536 in
theorem w_rest : rest_1_c.before args0 about1 = true := by decide +kernel
set_option maxRecDepth 65536 in
theorem w_case : (Jvm.Cond.and given_1 narrow_1).before args0 about1 = true := by decide +kernel
theorem w_applies : (headSpec (Jvm.Cond.code x code maxLocals ret :: tables_1) room_1).applies x e0.platform about1 = true :=
  (Spec.applies_iff w_frames).mpr ⟨w_running, w_runnable, w_alone, w_named, w_hears, w_ripe, w_room, w_tables⟩
theorem atStart : AtStart classFile x code maxLocals ret World_1 tables_1 room_1 Calls_1 rest_1 Pre_1 launch0 p0 e0 about1 theMethod args0 below0 :=
  ⟨lists_1, trivial, launch0.admits_env _ _ _, launch0.least_env, fairChoices_fair.cas, fairChoices_fair.clock, w_frames, w_args, w_heap, w_applies, trivial, w_rest, w_case⟩
end start1
theorem witness_1 : WitnessClaimed_1 := ⟨start1.p0, start1.e0, start1.about1, start1.theMethod, start1.args0, start1.below0, start1.atStart⟩
end Jvm.Pilot.@@N@@
