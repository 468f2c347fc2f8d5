import JvmDerived
import JvmDerived.Pilot.@@N@@Statement
import JvmDerived.Pilot.@@N@@Code
set_option linter.unusedVariables false
set_option linter.unusedSimpArgs false
namespace Jvm.RoadKit
open Sem ClassFile Op Lib Jvm.Stand Jvm.Free Jvm.LawKit
section Own
variable {p : Program} {l : Launch} {e : Env} {R : Room} {s : State} {m : MethodId} {args : Array Value} {below : List Frame} {meth : Method} {c : Code} {T : State} {locs : List Loc} {cells slots : Nat} {k n : Nat} {Q : Option Value → Heap → List Loc → Prop} {W W' : State} {Z : State} {a0 : Array Value} {h : Heap}
/-- the run from W comes back, with what Q says -/
def OwnOut (p : Program) (e : Env) (s : State) (below : List Frame) (k n : Nat) (Q : Option Value → Heap → List Loc → Prop) (W : State) : Prop :=
  ∃ s₂ o, Steps p.tables e below W s₂ ∧ s₂.status = .running ∧ Ended s₂ below o ∧ ∃ v L, o = .returned v ∧ Q v s₂.heap L ∧ FrameEnd s o s₂ L k n
theorem OwnOut.go (h : ∀ t, Steps p.tables e below W' t → Steps p.tables e below W t) (H : OwnOut p e s below k n Q W') : OwnOut p e s below k n Q W := by
  obtain ⟨s₂, o, h1, h2⟩ := H
  exact ⟨s₂, o, h _ h1, h2⟩
theorem OwnOut.at {g g' : JFrame} (q : g = g') (H : OwnOut p e s below k n Q (T.setTop g')) : OwnOut p e s below k n Q (T.setTop g) := q ▸ H
theorem OwnOut.imp {Q' : Option Value → Heap → List Loc → Prop} (q : ∀ v h L, Q' v h L → Q v h L) (H : OwnOut p e s below k n Q' W) : OwnOut p e s below k n Q W := by
  obtain ⟨s₂, o, h1, h2, h3, v, L, h4, h5, h6⟩ := H
  exact ⟨s₂, o, h1, h2, h3, v, L, h4, q _ _ _ h5, h6⟩
theorem outI (X : Stand p l e R s m args below meth c T locs cells slots) (hx : p.tables.exec = Jvm.exec) {pc : Nat} {Ls : Array Slot} {z : Int32} (hret : meth.sig.returnType = some .int) (hd : decode c.code pc = .ok (.ireturn, 1)) (hlk : meth.locks = false) (hk : cells ≤ k) (hn : slots ≤ n) (q : Q (some (.int z)) T.heap locs) :
    OwnOut p e s below k n Q (T.setTop (mkF m pc Ls [.int z])) := by
  obtain ⟨fs, hr, hrun, hended, hW, hsame⟩ := X.leave (v := some (.int z)) (fun h => by rw [hret] at h; cases h) hlk
  exact ⟨_, _, X.ireturnOut hx hret rfl (Or.inl rfl) hd hr, hrun, hended, _, _, rfl, q, ⟨_, rfl⟩, hW, hsame.mono hk hn⟩
theorem outZ (X : Stand p l e R s m args below meth c T locs cells slots) (hx : p.tables.exec = Jvm.exec) {pc : Nat} {Ls : Array Slot} {z : Int32} (hret : meth.sig.returnType = some .boolean) (hd : decode c.code pc = .ok (.ireturn, 1)) (hlk : meth.locks = false) (hk : cells ≤ k) (hn : slots ≤ n) (q : Q (some (.int (z &&& 1))) T.heap locs) :
    OwnOut p e s below k n Q (T.setTop (mkF m pc Ls [.int z])) := by
  obtain ⟨fs, hr, hrun, hended, hW, hsame⟩ := X.leave (v := some (.int (z &&& 1))) (fun h => by rw [hret] at h; cases h) hlk
  exact ⟨_, _, retN X hx (t := .boolean) hret (by simp) hd hr, hrun, hended, _, _, rfl, q, ⟨_, rfl⟩, hW, hsame.mono hk hn⟩
theorem outJ (X : Stand p l e R s m args below meth c T locs cells slots) (hx : p.tables.exec = Jvm.exec) {pc : Nat} {Ls : Array Slot} {z : Int64} (hret : meth.sig.returnType = some .long) (hd : decode c.code pc = .ok (.lreturn, 1)) (hlk : meth.locks = false) (hk : cells ≤ k) (hn : slots ≤ n) (q : Q (some (.long z)) T.heap locs) :
    OwnOut p e s below k n Q (T.setTop (mkF m pc Ls [.long z])) := by
  obtain ⟨fs, hr, hrun, hended, hW, hsame⟩ := X.leave (v := some (.long z)) (fun h => by rw [hret] at h; cases h) hlk
  exact ⟨_, _, X.lreturnOut hx hret hd hr, hrun, hended, _, _, rfl, q, ⟨_, rfl⟩, hW, hsame.mono hk hn⟩
theorem outA (X : Stand p l e R s m args below meth c T locs cells slots) (hx : p.tables.exec = Jvm.exec) {pc : Nat} {Ls : Array Slot} {w : Value} {t : FieldType} (hw : w.isRef = true) (hret : meth.sig.returnType = some t) (ht : t.isReference = true) (hd : decode c.code pc = .ok (.areturn, 1)) (hlk : meth.locks = false) (hk : cells ≤ k) (hn : slots ≤ n) (q : Q (some w) T.heap locs) :
    OwnOut p e s below k n Q (T.setTop (mkF m pc Ls [w])) := by
  obtain ⟨fs, hr, hrun, hended, hW, hsame⟩ := X.leave (v := some w) (fun h => by rw [hret] at h; cases h) hlk
  exact ⟨_, _, X.areturnOut hx hw hret ht hd hr, hrun, hended, _, _, rfl, q, ⟨_, rfl⟩, hW, hsame.mono hk hn⟩
theorem outV (X : Stand p l e R s m args below meth c T locs cells slots) (hx : p.tables.exec = Jvm.exec) {pc : Nat} {Ls : Array Slot} (hret : meth.sig.returnType = none) (hd : decode c.code pc = .ok (.return_, 1)) (hlk : meth.locks = false) (hk : cells ≤ k) (hn : slots ≤ n) (q : Q none T.heap locs) :
    OwnOut p e s below k n Q (T.setTop (mkF m pc Ls [])) := by
  obtain ⟨fs, hr, hrun, hended, hW, hsame⟩ := X.leave (v := none) (fun _ => rfl) hlk
  exact ⟨_, _, X.returnOut hx hret hd hr, hrun, hended, _, _, rfl, q, ⟨_, rfl⟩, hW, hsame.mono hk hn⟩
theorem lremM {g : JFrame} {target : State} (X : Stand p l e R s m args below meth c T locs cells slots) (hx : p.tables.exec = Jvm.exec) (hg : g.method = m) {x y : Int64} {rest : List Value} (hd : decode c.code g.pc = .ok (.lrem, 1)) (hs : g.stack = .long y :: .long x :: rest) (hy : y ≠ 0)
    (hr : Steps p.tables e below (T.setTop { g with pc := g.pc + 1, stack := .long (x % y) :: rest }) target) : Steps p.tables e below (T.setTop g) target :=
  XS.lrem X.here hx hg hd hs hy (by rw [lrem_mod]; exact hr)
/-- a body that touches nothing: what it returns, the heap as it was, nothing written -/
def QP (h0 : Heap) (w : Option Value) (v : Option Value) (h : Heap) (L : List Loc) : Prop := v = w ∧ h = h0 ∧ L = []
/-- a static call of such a body -/
theorem callP (X : Stand p l e R s m args below meth c T locs cells slots) (hx : p.tables.exec = Jvm.exec) (hZ : Z.Warmed39 s.vm) {own : String} {index : Nat} {y : MethodName} {bytes : ByteArray} {maxL : Nat} {ret : Option FieldType} {rm : Room} {as' : Array Value} {w : Option Value}
    (hown : s.vm.findClass own = some m.cls) (w1 : (Cond.methodLink own index y).before a0 Z = true) (w2 : (Cond.static y).before a0 Z = true) (w3 : (Cond.initialized y.cls).before a0 Z = true) (w4 : (Cond.code y bytes maxL ret).before a0 Z = true) (hy : y.cls ≠ "java/lang/invoke/MethodHandle" ∧ y.cls ≠ "java/lang/invoke/VarHandle")
    (hM : MetFree l y (head1 [Cond.code y bytes maxL ret] rm) (fun a U => a = as' ∧ Z.Warmed39 U.vm ∧ U.heap = h) (fun _ _ _ _ _ => True) (fun _ U o U' => ∃ v L, o = .returned v ∧ QP h w v U'.heap L ∧ FrameEnd U o U' L rm.cells rm.slots))
    {W : Nat} (hf : rm.frames + 1 ≤ R.frames) (hl : W + (maxL + 11) + rm.locals ≤ R.locals) (z1 : rm.cells = 0) (z2 : rm.slots = 0) (hc : cells ≤ R.cells) (hs' : slots ≤ R.slots) (eT : T.heap = h)
    {g : JFrame} (hg : g.method = m) (hsize : g.locals.size = c.maxLocals) {argsL rest : List Value} (hlen : ∀ sig, parseMethodDescriptor y.desc = some sig → argsL.length = sig.parameters.length)
    (hstack : g.stack = argsL.reverse ++ rest) (hW : 2 * g.monitorRoom + (rest.map fun v => v.category).sum ≤ W) (hdg : decode c.code g.pc = .ok (.invokestatic index, 3)) (has : argsL.toArray = as' := by rfl) :
    ∃ T', Stand p l e R s m args below meth c T' locs cells slots ∧ T'.heap = h ∧ ∀ target, Steps p.tables e below (T'.setTop { g with pc := g.pc + 3, stack := w.toList ++ rest }) target → Steps p.tables e below (T.setTop g) target := by
  obtain ⟨v, vm₁, ⟨T', L', k', n'⟩, -, X', ⟨Lc, ⟨rfl, q2, rfl⟩, l1, y1, z3⟩, st⟩ := Jvm.LawKit.callS X hx (y := y) hown (mvT hZ w1) (mvT hZ w2) (mvT hZ w3) (mvT hZ w4) hy (backOf (W := W) hM hZ w4 w3 hf hl) hg hsize hlen hstack hW hdg (fun _ _ => ⟨has, eT, by rw [z1]; exact hc, by rw [z2]; exact hs'⟩)
  dsimp only [Pt.U, Pt.locs, Pt.cells, Pt.slots] at X' l1 y1 z3 st q2
  rw [z1] at y1; rw [z2] at z3
  rw [List.append_nil] at l1
  subst l1 y1 z3
  exact ⟨T', X', q2, st⟩
end Own
end Jvm.RoadKit
namespace Jvm.RoadKit
open Sem ClassFile Op Lib Jvm.Stand Jvm.Free Jvm.LawKit
section Own2
variable {p : Program} {l : Launch} {e : Env} {R : Room} {s : State} {m : MethodId} {args : Array Value} {below : List Frame} {meth : Method} {c : Code} {T : State} {locs : List Loc} {cells slots : Nat} {Z : State} {a0 : Array Value} {h h' : Heap} {a b : Addr} {ty : FieldType} {vs : List Value} {sl : Nat} {v : Value} {ws : List Addr}
/-- an array, by the list of what it holds -/
def Ar (Z : State) (h : Heap) (a : Addr) (ty : FieldType) (vs : List Value) : Prop := ∃ c : Cell, Arr Z h a c ty ∧ c.slots.toList = vs ∧ vs.length < 2 ^ 31
theorem Ar.lt (A : Ar Z h a ty vs) : a < h.size := by obtain ⟨c, q, -⟩ := A; exact q.lt
theorem Ar.ext (A : Ar Z h a ty vs) (E : Ext h h') : Ar Z h' a ty vs := by obtain ⟨c, q, r⟩ := A; exact ⟨c, q.ext E, r⟩
theorem Ar.other (A : Ar Z h b ty vs) (W : Wr h h' a sl v) (q : b ≠ a) : Ar Z h' b ty vs := by obtain ⟨c, r, t⟩ := A; exact ⟨c, r.other W q, t⟩
theorem Ar.keep (A : Ar Z h a ty vs) (K : Keep h h' ws) (q : a ∉ ws) : Ar Z h' a ty vs := by obtain ⟨c, r, t⟩ := A; exact ⟨c, ⟨K.2.1 a c r.1 q, r.2⟩, t⟩
theorem Ar.same (A : Ar Z h a ty vs) (W : Wr h h' a sl v) : Ar Z h' a ty (vs.set sl v) := by
  obtain ⟨c, r, t, u⟩ := A
  refine ⟨_, r.same W, ?_, by rw [List.length_set]; exact u⟩
  show (c.slots.setIfInBounds sl v).toList = _
  rw [Array.toList_setIfInBounds, t]
abbrev Ari (Z : State) (h : Heap) (a : Addr) (ty : FieldType) (xs : List Int32) : Prop := Ar Z h a ty (xs.map Value.int)
abbrev Arj (Z : State) (h : Heap) (a : Addr) (xs : List Int64) : Prop := Ar Z h a .long (xs.map Value.long)
/-- what an array's place holds -/
def ldx {α : Type} (xs : List α) (j : Int32) : Option α := if j < 0 then none else xs[j.toNatClampNeg]?
def stx {α : Type} (xs : List α) (j : Int32) (v : α) : Option (List α) := if j < 0 then none else if xs.length ≤ j.toNatClampNeg then none else some (xs.set j.toNatClampNeg v)
def nwx {α : Type} (d : α) (cap : Nat) (n : Int32) : Option (List α) := if n < 0 then none else if cap < n.toNatClampNeg then none else some (List.replicate n.toNatClampNeg d)
def lenx {α : Type} (xs : List α) : Int32 := xs.length.toInt32
theorem ldx_at {α : Type} {f : α → Value} {xs : List α} {j : Int32} {x : α} {cl : Cell} (hv : ldx xs j = some x) (q : cl.slots.toList = xs.map f) : ¬ (j < 0 ∨ cl.slots.size ≤ j.toNatClampNeg) ∧ cl.slots[j.toNatClampNeg]? = some (f x) := by
  unfold ldx at hv
  by_cases hj : j < 0
  · rw [if_pos hj] at hv; cases hv
  rw [if_neg hj] at hv
  have h1 : cl.slots[j.toNatClampNeg]? = some (f x) := by rw [← Array.getElem?_toList, q, List.getElem?_map, hv]; rfl
  refine ⟨fun z => z.elim hj fun z => ?_, h1⟩
  rw [Array.getElem?_eq_none z] at h1; cases h1
theorem stx_at {α : Type} {f : α → Value} {xs ys : List α} {j : Int32} {x : α} {cl : Cell} (hv : stx xs j x = some ys) (q : cl.slots.toList = xs.map f) : ¬ (j < 0 ∨ cl.slots.size ≤ j.toNatClampNeg) ∧ ys = xs.set j.toNatClampNeg x := by
  unfold stx at hv
  by_cases hj : j < 0
  · rw [if_pos hj] at hv; cases hv
  rw [if_neg hj] at hv
  by_cases hl : xs.length ≤ j.toNatClampNeg
  · rw [if_pos hl] at hv; cases hv
  rw [if_neg hl] at hv
  refine ⟨fun z => z.elim hj fun z => hl ?_, (Option.some.inj hv).symm⟩
  have : cl.slots.size = xs.length := by rw [← Array.length_toList, q, List.length_map]
  omega
theorem ldI (X : Stand p l e R s m args below meth c T locs cells slots) (hx : p.tables.exec = Jvm.exec) (hZ : Z.Warmed39 s.vm) (eT : T.heap = h) {xs : List Int32} (A : Ari Z h a .int xs) {j v : Int32} (hv : ldx xs j = some v) {g : JFrame} (hg : g.method = m) {rest : List Value} (hs : g.stack = .int j :: .ref a :: rest) (hd : decode c.code g.pc = .ok (.iaload, 1)) (target : State)
    (hr : Steps p.tables e below (T.setTop { g with pc := g.pc + 1, stack := .int v :: rest }) target) : Steps p.tables e below (T.setTop g) target := by
  obtain ⟨cl, A1, A2, -⟩ := A
  obtain ⟨hj, hat⟩ := ldx_at hv A2
  exact X.iaload hx (by rw [eT]; exact A1.1) (State.isArrayOf_alike hZ.alike A1.2.1) A1.2.2 hj hat hg hs hd target hr
theorem ldB (X : Stand p l e R s m args below meth c T locs cells slots) (hx : p.tables.exec = Jvm.exec) (hZ : Z.Warmed39 s.vm) (eT : T.heap = h) {xs : List Int32} (A : Ari Z h a .byte xs) {j v : Int32} (hv : ldx xs j = some v) {g : JFrame} (hg : g.method = m) {rest : List Value} (hs : g.stack = .int j :: .ref a :: rest) (hd : decode c.code g.pc = .ok (.baload, 1)) (target : State)
    (hr : Steps p.tables e below (T.setTop { g with pc := g.pc + 1, stack := .int v :: rest }) target) : Steps p.tables e below (T.setTop g) target := by
  obtain ⟨cl, A1, A2, -⟩ := A
  obtain ⟨hj, hat⟩ := ldx_at hv A2
  exact X.baloadBytes hx (by rw [eT]; exact A1.1) (State.isArrayOf_alike hZ.alike A1.2.1) A1.2.2 hj hat hg hs hd target hr
theorem ldZ (X : Stand p l e R s m args below meth c T locs cells slots) (hx : p.tables.exec = Jvm.exec) (hZ : Z.Warmed39 s.vm) (eT : T.heap = h) {xs : List Int32} (A : Ari Z h a .boolean xs) {j v : Int32} (hv : ldx xs j = some v) {g : JFrame} (hg : g.method = m) {rest : List Value} (hs : g.stack = .int j :: .ref a :: rest) (hd : decode c.code g.pc = .ok (.baload, 1)) (target : State)
    (hr : Steps p.tables e below (T.setTop { g with pc := g.pc + 1, stack := .int v :: rest }) target) : Steps p.tables e below (T.setTop g) target := by
  obtain ⟨cl, A1, A2, -⟩ := A
  obtain ⟨hj, hat⟩ := ldx_at hv A2
  exact X.baloadBooleans hx (by rw [eT]; exact A1.1) (State.isArrayOf_alike hZ.alike A1.2.1) A1.2.2 hj hat hg hs hd target hr
theorem ldJ (X : Stand p l e R s m args below meth c T locs cells slots) (hx : p.tables.exec = Jvm.exec) (hZ : Z.Warmed39 s.vm) (eT : T.heap = h) {xs : List Int64} (A : Arj Z h a xs) {j : Int32} {v : Int64} (hv : ldx xs j = some v) {g : JFrame} (hg : g.method = m) {rest : List Value} (hs : g.stack = .int j :: .ref a :: rest) (hd : decode c.code g.pc = .ok (.laload, 1)) (target : State)
    (hr : Steps p.tables e below (T.setTop { g with pc := g.pc + 1, stack := .long v :: rest }) target) : Steps p.tables e below (T.setTop g) target := by
  obtain ⟨cl, A1, A2, -⟩ := A
  obtain ⟨hj, hat⟩ := ldx_at hv A2
  exact X.laload hx (by rw [eT]; exact A1.1) (State.isArrayOf_alike hZ.alike A1.2.1) A1.2.2 hj hat hg hs hd target hr
theorem lenA (X : Stand p l e R s m args below meth c T locs cells slots) (hx : p.tables.exec = Jvm.exec) (hZ : Z.Warmed39 s.vm) (eT : T.heap = h) {α : Type} {f : α → Value} {xs : List α} (A : Ar Z h a ty (xs.map f)) {g : JFrame} (hg : g.method = m) {rest : List Value} (hs : g.stack = .ref a :: rest) (hd : decode c.code g.pc = .ok (.arraylength, 1)) (target : State)
    (hr : Steps p.tables e below (T.setTop { g with pc := g.pc + 1, stack := .int (lenx xs) :: rest }) target) : Steps p.tables e below (T.setTop g) target := by
  obtain ⟨cl, A1, A2, -⟩ := A
  have : cl.slots.size = xs.length := by rw [← Array.length_toList, A2, List.length_map]
  refine X.arraylength hx (by rw [eT]; exact A1.1) (State.isArrayOf_alike hZ.alike A1.2.1) hg hs hd target ?_
  rw [this]; exact hr
theorem saI (X : Stand p l e R s m args below meth c T locs cells slots) (hx : p.tables.exec = Jvm.exec) (hZ : Z.Warmed39 s.vm) (eT : T.heap = h) {xs ys : List Int32} (A : Ari Z h a .int xs) {j v : Int32} (hv : stx xs j v = some ys) {g : JFrame} (hg : g.method = m) {rest : List Value} (hs : g.stack = .int v :: .int j :: .ref a :: rest) (hd : decode c.code g.pc = .ok (.iastore, 1)) :
    ∃ T' h', Stand p l e R s m args below meth c T' (locs ++ [⟨a, j.toNatClampNeg⟩]) cells slots ∧ T'.heap = h' ∧ Wr h h' a j.toNatClampNeg (.int v) ∧ Ari Z h' a .int ys ∧ ∀ target, Steps p.tables e below (T'.setTop { g with pc := g.pc + 1, stack := rest }) target → Steps p.tables e below (T.setTop g) target := by
  have A' := A
  obtain ⟨cl, A1, A2, -⟩ := A
  obtain ⟨hj, rfl⟩ := stx_at hv A2
  obtain ⟨T', h', X', e', W', st⟩ := stI X hx hZ eT A1 hj hg hs hd
  exact ⟨T', h', X', e', W', by have q := A'.same W'; rw [← List.map_set] at q; exact q, st⟩
theorem saB (X : Stand p l e R s m args below meth c T locs cells slots) (hx : p.tables.exec = Jvm.exec) (hZ : Z.Warmed39 s.vm) (eT : T.heap = h) {xs ys : List Int32} (A : Ari Z h a .byte xs) {j v : Int32} (hv : stx xs j v.toInt8.toInt32 = some ys) {g : JFrame} (hg : g.method = m) {rest : List Value} (hs : g.stack = .int v :: .int j :: .ref a :: rest) (hd : decode c.code g.pc = .ok (.bastore, 1)) :
    ∃ T' h', Stand p l e R s m args below meth c T' (locs ++ [⟨a, j.toNatClampNeg⟩]) cells slots ∧ T'.heap = h' ∧ Wr h h' a j.toNatClampNeg (.int v.toInt8.toInt32) ∧ Ari Z h' a .byte ys ∧ ∀ target, Steps p.tables e below (T'.setTop { g with pc := g.pc + 1, stack := rest }) target → Steps p.tables e below (T.setTop g) target := by
  have A' := A
  obtain ⟨cl, A1, A2, -⟩ := A
  obtain ⟨hj, rfl⟩ := stx_at hv A2
  obtain ⟨T', h', X', e', W', st⟩ := stB X hx hZ eT A1 hj hg hs hd
  exact ⟨T', h', X', e', W', by have q := A'.same W'; rw [show Value.int (nar .byte v) = Value.int v.toInt8.toInt32 from rfl, ← List.map_set] at q; exact q, st⟩
theorem saZ (X : Stand p l e R s m args below meth c T locs cells slots) (hx : p.tables.exec = Jvm.exec) (hZ : Z.Warmed39 s.vm) (eT : T.heap = h) {xs ys : List Int32} (A : Ari Z h a .boolean xs) {j v : Int32} (hv : stx xs j (v &&& 1) = some ys) {g : JFrame} (hg : g.method = m) {rest : List Value} (hs : g.stack = .int v :: .int j :: .ref a :: rest) (hd : decode c.code g.pc = .ok (.bastore, 1)) :
    ∃ T' h', Stand p l e R s m args below meth c T' (locs ++ [⟨a, j.toNatClampNeg⟩]) cells slots ∧ T'.heap = h' ∧ Wr h h' a j.toNatClampNeg (.int (v &&& 1)) ∧ Ari Z h' a .boolean ys ∧ ∀ target, Steps p.tables e below (T'.setTop { g with pc := g.pc + 1, stack := rest }) target → Steps p.tables e below (T.setTop g) target := by
  have A' := A
  obtain ⟨cl, A1, A2, -⟩ := A
  obtain ⟨hj, rfl⟩ := stx_at hv A2
  obtain ⟨T', h', X', e', W', st⟩ := stZ X hx hZ eT A1 hj hg hs hd
  exact ⟨T', h', X', e', W', by have q := A'.same W'; rw [show Value.int (nar .boolean v) = Value.int (v &&& 1) from rfl, ← List.map_set] at q; exact q, st⟩
theorem saJ (X : Stand p l e R s m args below meth c T locs cells slots) (hx : p.tables.exec = Jvm.exec) (hZ : Z.Warmed39 s.vm) (eT : T.heap = h) {xs ys : List Int64} (A : Arj Z h a xs) {j : Int32} {v : Int64} (hv : stx xs j v = some ys) {g : JFrame} (hg : g.method = m) {rest : List Value} (hs : g.stack = .long v :: .int j :: .ref a :: rest) (hd : decode c.code g.pc = .ok (.lastore, 1)) :
    ∃ T' h', Stand p l e R s m args below meth c T' (locs ++ [⟨a, j.toNatClampNeg⟩]) cells slots ∧ T'.heap = h' ∧ Wr h h' a j.toNatClampNeg (.long v) ∧ Arj Z h' a ys ∧ ∀ target, Steps p.tables e below (T'.setTop { g with pc := g.pc + 1, stack := rest }) target → Steps p.tables e below (T.setTop g) target := by
  have A' := A
  obtain ⟨cl, A1, A2, -⟩ := A
  obtain ⟨hj, rfl⟩ := stx_at hv A2
  obtain ⟨T', h', X', e', W', st⟩ := stJ X hx hZ eT A1 hj hg hs hd
  exact ⟨T', h', X', e', W', by have q := A'.same W'; rw [← List.map_set] at q; exact q, st⟩
theorem nwx_at {α : Type} {d : α} {cap : Nat} {n : Int32} {xs : List α} (hv : nwx d cap n = some xs) : ¬ n < 0 ∧ n.toNatClampNeg ≤ cap ∧ xs = List.replicate n.toNatClampNeg d := by
  unfold nwx at hv
  by_cases hj : n < 0
  · rw [if_pos hj] at hv; cases hv
  rw [if_neg hj] at hv
  by_cases hl : cap < n.toNatClampNeg
  · rw [if_pos hl] at hv; cases hv
  rw [if_neg hl] at hv
  exact ⟨hj, Nat.le_of_not_lt hl, (Option.some.inj hv).symm⟩
theorem Ar.new {α : Type} {f : α → Value} {d : α} {n : Int32} {cA : ClassId} (A : Arr Z h a (newA cA ty n) ty) (q : ¬ n < 0) (hd : defaultValue ty = f d) : Ar Z h a ty ((List.replicate n.toNatClampNeg d).map f) := by
  refine ⟨_, A, ?_, ?_⟩
  · show (Array.replicate n.toNatClampNeg (defaultValue ty)).toList = _
    rw [Array.toList_replicate, List.map_replicate, hd]
  · rw [List.length_map, List.length_replicate]; exact (back32 q).2
/-- a new array of ints, bytes, booleans .. -/
theorem nwA (X : Stand p l e R s m args below meth c T locs cells slots) (hx : p.tables.exec = Jvm.exec) (hZ : Z.Warmed39 s.vm) {aty : ArrayType} (w : (Cond.arrayClass (newarray.typeOf aty)).before a0 Z = true) (eT : T.heap = h) {α : Type} {f : α → Value} {d : α} {cap : Nat} {n : Int32} {xs : List α} (hv : nwx d cap n = some xs) (hdf : defaultValue (newarray.typeOf aty) = f d)
    {g : JFrame} (hg : g.method = m) {rest : List Value} (hs : g.stack = .int n :: rest) (hd : decode c.code g.pc = .ok (.newarray aty, 2)) (hb : cap * 8 ≤ 536870912) (hc : cells + 1 ≤ R.cells) (hl : slots + cap ≤ R.slots) :
    ∃ T' h', Stand p l e R s m args below meth c T' locs (cells + 1) (slots + cap) ∧ T'.heap = h' ∧ Ext h h' ∧ Ar Z h' h.size (newarray.typeOf aty) (xs.map f) ∧ ∀ target, Steps p.tables e below (T'.setTop { g with pc := g.pc + 2, stack := .ref h.size :: rest }) target → Steps p.tables e below (T.setTop g) target := by
  obtain ⟨q1, q2, rfl⟩ := nwx_at hv
  obtain ⟨T', h', cA, X', e', E', A', st⟩ := newP X hx hZ w eT hg hd hs q1 (cap := cap) q2 hb hc hl
  exact ⟨T', h', X', e', E', Ar.new A' q1 hdf, st⟩
variable {y : MethodName} {bytes : ByteArray} {maxL : Nat} {ret : Option FieldType} {rm : Room} {as' : Array Value} {Q : Option Value → Heap → List Loc → Prop} {own : String} {index : Nat}
/-- a static call by the callee's contract -/
theorem callQ (X : Stand p l e R s m args below meth c T locs cells slots) (hx : p.tables.exec = Jvm.exec) (hZ : Z.Warmed39 s.vm)
    (hown : s.vm.findClass own = some m.cls) (w1 : (Cond.methodLink own index y).before a0 Z = true) (w2 : (Cond.static y).before a0 Z = true) (w3 : (Cond.initialized y.cls).before a0 Z = true) (w4 : (Cond.code y bytes maxL ret).before a0 Z = true) (hy : y.cls ≠ "java/lang/invoke/MethodHandle" ∧ y.cls ≠ "java/lang/invoke/VarHandle")
    (hM : MetFree l y (head1 [Cond.code y bytes maxL ret] rm) (fun a U => a = as' ∧ Z.Warmed39 U.vm ∧ U.heap = h) (fun _ _ _ _ _ => True) (fun _ U o U' => ∃ v L, o = .returned v ∧ Q v U'.heap L ∧ FrameEnd U o U' L rm.cells rm.slots))
    {W : Nat} (hf : rm.frames + 1 ≤ R.frames) (hl : W + (maxL + 11) + rm.locals ≤ R.locals) (hc : cells + rm.cells ≤ R.cells) (hs' : slots + rm.slots ≤ R.slots) (eT : T.heap = h)
    {g : JFrame} (hg : g.method = m) (hsize : g.locals.size = c.maxLocals) {argsL rest : List Value} (hlen : ∀ sig, parseMethodDescriptor y.desc = some sig → argsL.length = sig.parameters.length)
    (hstack : g.stack = argsL.reverse ++ rest) (hW : 2 * g.monitorRoom + (rest.map fun v => v.category).sum ≤ W) (hdg : decode c.code g.pc = .ok (.invokestatic index, 3)) (has : argsL.toArray = as' := by rfl) :
    ∃ v T' L', Stand p l e R s m args below meth c T' (locs ++ L') (cells + rm.cells) (slots + rm.slots) ∧ Q v T'.heap L' ∧ ∀ target, Steps p.tables e below (T'.setTop { g with pc := g.pc + 3, stack := v.toList ++ rest }) target → Steps p.tables e below (T.setTop g) target := by
  obtain ⟨v, vm₁, ⟨T', L', k', n'⟩, -, X', ⟨Lc, q2, l1, y1, z3⟩, st⟩ := Jvm.LawKit.callS X hx (y := y) hown (mvT hZ w1) (mvT hZ w2) (mvT hZ w3) (mvT hZ w4) hy (backOf (W := W) hM hZ w4 w3 hf hl) hg hsize hlen hstack hW hdg (fun _ _ => ⟨has, eT, hc, hs'⟩)
  dsimp only [Pt.U, Pt.locs, Pt.cells, Pt.slots] at X' l1 y1 z3 st q2
  subst l1 y1 z3
  exact ⟨v, T', Lc, X', q2, st⟩
/-- a constructor by its contract -/
theorem callN {ret : Option FieldType} (X : Stand p l e R s m args below meth c T locs cells slots) (hx : p.tables.exec = Jvm.exec) (hZ : Z.Warmed39 s.vm) (hret : ret = none) (hnm : y.name = "<init>")
    (hown : s.vm.findClass own = some m.cls) (w1 : (Cond.methodLink own index y).before a0 Z = true) (w2 : (Cond.instanceMethod y).before a0 Z = true) (w3 : (Cond.initialized y.cls).before a0 Z = true) (w4 : (Cond.code y bytes maxL ret).before a0 Z = true) (hy : y.cls ≠ "java/lang/invoke/MethodHandle" ∧ y.cls ≠ "java/lang/invoke/VarHandle")
    (hM : MetFree l y (head1 [Cond.code y bytes maxL ret] rm) (fun a U => a = as' ∧ Z.Warmed39 U.vm ∧ U.heap = h) (fun _ _ _ _ _ => True) (fun _ U o U' => ∃ v L, o = .returned v ∧ Q v U'.heap L ∧ FrameEnd U o U' L rm.cells rm.slots))
    {W : Nat} (hf : rm.frames + 1 ≤ R.frames) (hl : W + (maxL + 11) + rm.locals ≤ R.locals) (hc : cells + rm.cells ≤ R.cells) (hs' : slots + rm.slots ≤ R.slots) (eT : T.heap = h)
    {g : JFrame} (hg : g.method = m) (hsize : g.locals.size = c.maxLocals) {a : Addr} {argsL rest : List Value} (hlen : ∀ sig, parseMethodDescriptor y.desc = some sig → argsL.length = sig.parameters.length)
    (hstack : g.stack = argsL.reverse ++ .ref a :: rest) (hW : 2 * g.monitorRoom + (rest.map fun v => v.category).sum ≤ W) (hdg : decode c.code g.pc = .ok (.invokespecial index, 3)) (has : (Value.ref a :: argsL).toArray = as' := by rfl) :
    ∃ v T' L', Stand p l e R s m args below meth c T' (locs ++ L') (cells + rm.cells) (slots + rm.slots) ∧ Q v T'.heap L' ∧ ∀ target, Steps p.tables e below (T'.setTop { g with pc := g.pc + 3, stack := v.toList ++ rest }) target → Steps p.tables e below (T.setTop g) target := by
  subst hret
  obtain ⟨v, vm₁, ⟨T', L', k', n'⟩, -, X', ⟨Lc, q2, l1, y1, z3⟩, st⟩ := X.specialBack hx (y := y) hnm hown (mvT hZ w1) (mvT hZ w2) (mvT hZ w4) hy (backOf (W := W) hM hZ w4 w3 hf hl) hg hsize (Steps.refl _) hlen hstack hW hdg (fun _ _ => ⟨has, eT, hc, hs'⟩)
  dsimp only [Pt.U, Pt.locs, Pt.cells, Pt.slots] at X' l1 y1 z3 st q2
  subst l1 y1 z3
  exact ⟨v, T', Lc, X', q2, fun t k => st.trans k⟩
/-- an instance method by its contract -/
theorem callV (X : Stand p l e R s m args below meth c T locs cells slots) (hx : p.tables.exec = Jvm.exec) (hZ : Z.Warmed39 s.vm)
    (hown : s.vm.findClass own = some m.cls) (w1 : (Cond.methodLink own index y).before a0 Z = true) (w2 : (Cond.declares y).before a0 Z = true) (w3 : (Cond.selects y.cls y y).before a0 Z = true) (w5 : (Cond.instanceMethod y).before a0 Z = true) (w6 : (Cond.initialized y.cls).before a0 Z = true) (w4 : (Cond.code y bytes maxL ret).before a0 Z = true) (hy : y.cls ≠ "java/lang/invoke/MethodHandle" ∧ y.cls ≠ "java/lang/invoke/VarHandle")
    (hM : MetFree l y (head1 [Cond.code y bytes maxL ret] rm) (fun a U => a = as' ∧ Z.Warmed39 U.vm ∧ U.heap = h) (fun _ _ _ _ _ => True) (fun _ U o U' => ∃ v L, o = .returned v ∧ Q v U'.heap L ∧ FrameEnd U o U' L rm.cells rm.slots))
    {W : Nat} (hf : rm.frames + 1 ≤ R.frames) (hl : W + (maxL + 11) + rm.locals ≤ R.locals) (hc : cells + rm.cells ≤ R.cells) (hs' : slots + rm.slots ≤ R.slots) (eT : T.heap = h) {a : Addr} (E : Exa Z h a y.cls)
    {g : JFrame} (hg : g.method = m) (hsize : g.locals.size = c.maxLocals) {argsL rest : List Value} (hlen : ∀ sig, parseMethodDescriptor y.desc = some sig → argsL.length = sig.parameters.length)
    (hstack : g.stack = argsL.reverse ++ .ref a :: rest) (hW : 2 * g.monitorRoom + (rest.map fun v => v.category).sum ≤ W) (hdg : decode c.code g.pc = .ok (.invokevirtual index, 3)) (has : (Value.ref a :: argsL).toArray = as' := by rfl) :
    ∃ v T' L', Stand p l e R s m args below meth c T' (locs ++ L') (cells + rm.cells) (slots + rm.slots) ∧ Q v T'.heap L' ∧ ∀ target, Steps p.tables e below (T'.setTop { g with pc := g.pc + 3, stack := v.toList ++ rest }) target → Steps p.tables e below (T.setTop g) target := by
  obtain ⟨cq, kq, qa, qb, qc⟩ := isOf hZ eT E
  obtain ⟨v, vm₁, ⟨T', L', k', n'⟩, -, X', ⟨Lc, q2, l1, y1, z3⟩, st⟩ := X.virtualBack hx (y := y) (z := y) hown (mvT hZ w1) (mvT hZ w2) (notFace_of_selects (args := #[]) (mvT hZ w3)) (mvT hZ w3) (mvT hZ w5) hy (backOf (W := W) hM hZ w4 w6 hf hl) qa qc hg hsize (Steps.refl _) hlen hstack hW hdg (fun _ _ => ⟨has, eT, hc, hs'⟩)
  dsimp only [Pt.U, Pt.locs, Pt.cells, Pt.slots] at X' l1 y1 z3 st q2
  subst l1 y1 z3
  exact ⟨v, T', Lc, X', q2, fun t k => st.trans k⟩
/-- a private method by its contract -/
theorem callR (X : Stand p l e R s m args below meth c T locs cells slots) (hx : p.tables.exec = Jvm.exec) (hZ : Z.Warmed39 s.vm)
    (hown : s.vm.findClass own = some m.cls) (w1 : (Cond.methodLink own index y).before a0 Z = true) (w2 : (Cond.privateMethod y).before a0 Z = true) {kk : Nat} (w3 : (Cond.instantiable y.cls kk).before a0 Z = true) (w5 : (Cond.instanceMethod y).before a0 Z = true) (w6 : (Cond.initialized y.cls).before a0 Z = true) (w4 : (Cond.code y bytes maxL ret).before a0 Z = true) (hy : y.cls ≠ "java/lang/invoke/MethodHandle" ∧ y.cls ≠ "java/lang/invoke/VarHandle")
    (hM : MetFree l y (head1 [Cond.code y bytes maxL ret] rm) (fun a U => a = as' ∧ Z.Warmed39 U.vm ∧ U.heap = h) (fun _ _ _ _ _ => True) (fun _ U o U' => ∃ v L, o = .returned v ∧ Q v U'.heap L ∧ FrameEnd U o U' L rm.cells rm.slots))
    {W : Nat} (hf : rm.frames + 1 ≤ R.frames) (hl : W + (maxL + 11) + rm.locals ≤ R.locals) (hc : cells + rm.cells ≤ R.cells) (hs' : slots + rm.slots ≤ R.slots) (eT : T.heap = h) {a : Addr} (E : Exa Z h a y.cls)
    {g : JFrame} (hg : g.method = m) (hsize : g.locals.size = c.maxLocals) {argsL rest : List Value} (hlen : ∀ sig, parseMethodDescriptor y.desc = some sig → argsL.length = sig.parameters.length)
    (hstack : g.stack = argsL.reverse ++ .ref a :: rest) (hW : 2 * g.monitorRoom + (rest.map fun v => v.category).sum ≤ W) (hdg : decode c.code g.pc = .ok (.invokevirtual index, 3)) (has : (Value.ref a :: argsL).toArray = as' := by rfl) :
    ∃ v T' L', Stand p l e R s m args below meth c T' (locs ++ L') (cells + rm.cells) (slots + rm.slots) ∧ Q v T'.heap L' ∧ ∀ target, Steps p.tables e below (T'.setTop { g with pc := g.pc + 3, stack := v.toList ++ rest }) target → Steps p.tables e below (T.setTop g) target := by
  obtain ⟨cq, q, q'⟩ := E.cell
  have hpr := Cond.privateMethod_at (mvP hZ w2 (args := args))
  obtain ⟨c4, k2, i1, i2, -, i4, -⟩ := Cond.instantiable_spec (mvT hZ w3 : (Cond.instantiable y.cls kk).before args s = true)
  have hsel := selects_self_of_private (args := args) i1 i2 (by simp only [Bool.or_eq_false_iff] at i4; exact i4.1) hpr (mvT hZ w5) hy
  obtain ⟨v, vm₁, ⟨T', L', k', n'⟩, -, X', ⟨Lc, q2, l1, y1, z3⟩, st⟩ := X.privateBack hx (y := y) hown (mvT hZ w1) (mvT hZ w5) hsel hpr (mvT hZ w4) hy (backOf (W := W) hM hZ w4 w6 hf hl) hg hsize (Steps.refl _) (by rw [eT]; exact q) q' hlen hstack hW hdg (fun _ _ => ⟨has, eT, hc, hs'⟩)
  dsimp only [Pt.U, Pt.locs, Pt.cells, Pt.slots] at X' l1 y1 z3 st q2
  subst l1 y1 z3
  exact ⟨v, T', Lc, X', q2, fun t k => st.trans k⟩
end Own2
end Jvm.RoadKit
namespace Jvm.Pilot.@@N@@
open Jvm Jvm.ClassFile Sem Op Lib Jvm.Free Jvm.Stand Jvm.LawKit Jvm.RoadKit Bundle Jvm.Pilot.@@N@@.Jvm.D
-- body 1 as 1: com/example/libnodeset/libnodeset/tree/XmlCharacters.isNameStart:(I)Z (touches nothing)
theorem d1_0 : decode prog_200_method_7_code 0 = .ok (.iload_n 0, 1) := by decide +kernel
theorem d1_1 : decode prog_200_method_7_code 1 = .ok (.bipush 97, 2) := by decide +kernel
theorem d1_3 : decode prog_200_method_7_code 3 = .ok (.if_icmp .lt 9, 3) := by decide +kernel
theorem d1_6 : decode prog_200_method_7_code 6 = .ok (.iload_n 0, 1) := by decide +kernel
theorem d1_7 : decode prog_200_method_7_code 7 = .ok (.bipush 122, 2) := by decide +kernel
theorem d1_9 : decode prog_200_method_7_code 9 = .ok (.if_icmp .le 182, 3) := by decide +kernel
theorem d1_12 : decode prog_200_method_7_code 12 = .ok (.iload_n 0, 1) := by decide +kernel
theorem d1_13 : decode prog_200_method_7_code 13 = .ok (.bipush 65, 2) := by decide +kernel
theorem d1_15 : decode prog_200_method_7_code 15 = .ok (.if_icmp .lt 9, 3) := by decide +kernel
theorem d1_18 : decode prog_200_method_7_code 18 = .ok (.iload_n 0, 1) := by decide +kernel
theorem d1_19 : decode prog_200_method_7_code 19 = .ok (.bipush 90, 2) := by decide +kernel
theorem d1_21 : decode prog_200_method_7_code 21 = .ok (.if_icmp .le 170, 3) := by decide +kernel
theorem d1_24 : decode prog_200_method_7_code 24 = .ok (.iload_n 0, 1) := by decide +kernel
theorem d1_25 : decode prog_200_method_7_code 25 = .ok (.bipush 95, 2) := by decide +kernel
theorem d1_27 : decode prog_200_method_7_code 27 = .ok (.if_icmp .eq 164, 3) := by decide +kernel
theorem d1_30 : decode prog_200_method_7_code 30 = .ok (.iload_n 0, 1) := by decide +kernel
theorem d1_31 : decode prog_200_method_7_code 31 = .ok (.sipush 192, 3) := by decide +kernel
theorem d1_34 : decode prog_200_method_7_code 34 = .ok (.if_icmp .lt 10, 3) := by decide +kernel
theorem d1_37 : decode prog_200_method_7_code 37 = .ok (.iload_n 0, 1) := by decide +kernel
theorem d1_38 : decode prog_200_method_7_code 38 = .ok (.sipush 214, 3) := by decide +kernel
theorem d1_41 : decode prog_200_method_7_code 41 = .ok (.if_icmp .le 150, 3) := by decide +kernel
theorem d1_44 : decode prog_200_method_7_code 44 = .ok (.iload_n 0, 1) := by decide +kernel
theorem d1_45 : decode prog_200_method_7_code 45 = .ok (.sipush 216, 3) := by decide +kernel
theorem d1_48 : decode prog_200_method_7_code 48 = .ok (.if_icmp .lt 10, 3) := by decide +kernel
theorem d1_51 : decode prog_200_method_7_code 51 = .ok (.iload_n 0, 1) := by decide +kernel
theorem d1_52 : decode prog_200_method_7_code 52 = .ok (.sipush 246, 3) := by decide +kernel
theorem d1_55 : decode prog_200_method_7_code 55 = .ok (.if_icmp .le 136, 3) := by decide +kernel
theorem d1_58 : decode prog_200_method_7_code 58 = .ok (.iload_n 0, 1) := by decide +kernel
theorem d1_59 : decode prog_200_method_7_code 59 = .ok (.sipush 248, 3) := by decide +kernel
theorem d1_62 : decode prog_200_method_7_code 62 = .ok (.if_icmp .lt 10, 3) := by decide +kernel
theorem d1_65 : decode prog_200_method_7_code 65 = .ok (.iload_n 0, 1) := by decide +kernel
theorem d1_66 : decode prog_200_method_7_code 66 = .ok (.sipush 767, 3) := by decide +kernel
theorem d1_69 : decode prog_200_method_7_code 69 = .ok (.if_icmp .le 122, 3) := by decide +kernel
theorem d1_72 : decode prog_200_method_7_code 72 = .ok (.iload_n 0, 1) := by decide +kernel
theorem d1_73 : decode prog_200_method_7_code 73 = .ok (.sipush 880, 3) := by decide +kernel
theorem d1_76 : decode prog_200_method_7_code 76 = .ok (.if_icmp .lt 10, 3) := by decide +kernel
theorem d1_79 : decode prog_200_method_7_code 79 = .ok (.iload_n 0, 1) := by decide +kernel
theorem d1_80 : decode prog_200_method_7_code 80 = .ok (.sipush 893, 3) := by decide +kernel
theorem d1_83 : decode prog_200_method_7_code 83 = .ok (.if_icmp .le 108, 3) := by decide +kernel
theorem d1_86 : decode prog_200_method_7_code 86 = .ok (.iload_n 0, 1) := by decide +kernel
theorem d1_87 : decode prog_200_method_7_code 87 = .ok (.sipush 895, 3) := by decide +kernel
theorem d1_90 : decode prog_200_method_7_code 90 = .ok (.if_icmp .lt 10, 3) := by decide +kernel
theorem d1_93 : decode prog_200_method_7_code 93 = .ok (.iload_n 0, 1) := by decide +kernel
theorem d1_94 : decode prog_200_method_7_code 94 = .ok (.sipush 8191, 3) := by decide +kernel
theorem d1_97 : decode prog_200_method_7_code 97 = .ok (.if_icmp .le 94, 3) := by decide +kernel
theorem d1_100 : decode prog_200_method_7_code 100 = .ok (.iload_n 0, 1) := by decide +kernel
theorem d1_101 : decode prog_200_method_7_code 101 = .ok (.sipush 8204, 3) := by decide +kernel
theorem d1_104 : decode prog_200_method_7_code 104 = .ok (.if_icmp .lt 10, 3) := by decide +kernel
theorem d1_107 : decode prog_200_method_7_code 107 = .ok (.iload_n 0, 1) := by decide +kernel
theorem d1_108 : decode prog_200_method_7_code 108 = .ok (.sipush 8205, 3) := by decide +kernel
theorem d1_111 : decode prog_200_method_7_code 111 = .ok (.if_icmp .le 80, 3) := by decide +kernel
theorem d1_114 : decode prog_200_method_7_code 114 = .ok (.iload_n 0, 1) := by decide +kernel
theorem d1_115 : decode prog_200_method_7_code 115 = .ok (.sipush 8304, 3) := by decide +kernel
theorem d1_118 : decode prog_200_method_7_code 118 = .ok (.if_icmp .lt 10, 3) := by decide +kernel
theorem d1_121 : decode prog_200_method_7_code 121 = .ok (.iload_n 0, 1) := by decide +kernel
theorem d1_122 : decode prog_200_method_7_code 122 = .ok (.sipush 8591, 3) := by decide +kernel
theorem d1_125 : decode prog_200_method_7_code 125 = .ok (.if_icmp .le 66, 3) := by decide +kernel
theorem d1_128 : decode prog_200_method_7_code 128 = .ok (.iload_n 0, 1) := by decide +kernel
theorem d1_129 : decode prog_200_method_7_code 129 = .ok (.sipush 11264, 3) := by decide +kernel
theorem d1_132 : decode prog_200_method_7_code 132 = .ok (.if_icmp .lt 10, 3) := by decide +kernel
theorem d1_135 : decode prog_200_method_7_code 135 = .ok (.iload_n 0, 1) := by decide +kernel
theorem d1_136 : decode prog_200_method_7_code 136 = .ok (.sipush 12271, 3) := by decide +kernel
theorem d1_139 : decode prog_200_method_7_code 139 = .ok (.if_icmp .le 52, 3) := by decide +kernel
theorem d1_142 : decode prog_200_method_7_code 142 = .ok (.iload_n 0, 1) := by decide +kernel
theorem d1_143 : decode prog_200_method_7_code 143 = .ok (.sipush 12289, 3) := by decide +kernel
theorem d1_146 : decode prog_200_method_7_code 146 = .ok (.if_icmp .lt 9, 3) := by decide +kernel
theorem d1_149 : decode prog_200_method_7_code 149 = .ok (.iload_n 0, 1) := by decide +kernel
theorem d1_150 : decode prog_200_method_7_code 150 = .ok (.ldc 7, 2) := by decide +kernel
theorem d1_152 : decode prog_200_method_7_code 152 = .ok (.if_icmp .le 39, 3) := by decide +kernel
theorem d1_155 : decode prog_200_method_7_code 155 = .ok (.iload_n 0, 1) := by decide +kernel
theorem d1_156 : decode prog_200_method_7_code 156 = .ok (.ldc 37, 2) := by decide +kernel
theorem d1_158 : decode prog_200_method_7_code 158 = .ok (.if_icmp .lt 9, 3) := by decide +kernel
theorem d1_161 : decode prog_200_method_7_code 161 = .ok (.iload_n 0, 1) := by decide +kernel
theorem d1_162 : decode prog_200_method_7_code 162 = .ok (.ldc 38, 2) := by decide +kernel
theorem d1_164 : decode prog_200_method_7_code 164 = .ok (.if_icmp .le 27, 3) := by decide +kernel
theorem d1_167 : decode prog_200_method_7_code 167 = .ok (.iload_n 0, 1) := by decide +kernel
theorem d1_168 : decode prog_200_method_7_code 168 = .ok (.ldc 39, 2) := by decide +kernel
theorem d1_170 : decode prog_200_method_7_code 170 = .ok (.if_icmp .lt 9, 3) := by decide +kernel
theorem d1_173 : decode prog_200_method_7_code 173 = .ok (.iload_n 0, 1) := by decide +kernel
theorem d1_174 : decode prog_200_method_7_code 174 = .ok (.ldc 9, 2) := by decide +kernel
theorem d1_176 : decode prog_200_method_7_code 176 = .ok (.if_icmp .le 15, 3) := by decide +kernel
theorem d1_179 : decode prog_200_method_7_code 179 = .ok (.iload_n 0, 1) := by decide +kernel
theorem d1_180 : decode prog_200_method_7_code 180 = .ok (.ldc 10, 2) := by decide +kernel
theorem d1_182 : decode prog_200_method_7_code 182 = .ok (.if_icmp .lt 13, 3) := by decide +kernel
theorem d1_185 : decode prog_200_method_7_code 185 = .ok (.iload_n 0, 1) := by decide +kernel
theorem d1_186 : decode prog_200_method_7_code 186 = .ok (.ldc 40, 2) := by decide +kernel
theorem d1_188 : decode prog_200_method_7_code 188 = .ok (.if_icmp .gt 7, 3) := by decide +kernel
theorem d1_191 : decode prog_200_method_7_code 191 = .ok (.iconst 1, 1) := by decide +kernel
theorem d1_192 : decode prog_200_method_7_code 192 = .ok (.goto 4, 3) := by decide +kernel
theorem d1_195 : decode prog_200_method_7_code 195 = .ok (.iconst 0, 1) := by decide +kernel
theorem d1_196 : decode prog_200_method_7_code 196 = .ok (.ireturn, 1) := by decide +kernel
theorem pn1 : plainName "com/example/libnodeset/libnodeset/tree/XmlCharacters" = true := by first | (simp [plainName, overriddenIn]; done) | decide +kernel
theorem pd1 : parseMethodDescriptor "(I)Z" = some ⟨[.int], some .boolean⟩ := by decide +kernel
theorem ef1 (m : MethodId) (x0 : Int32) : entryFrame m #[(.int x0)] 1 = mkF m 0 #[.val (.int x0)] [] := by first | (simp [entryFrame, mkF, argsToLocals, Value.category]; done) | rfl
abbrev rx1 : Room := { frames := 0, cells := 0, slots := 0, locals := 0 }
abbrev Cx1 (Z : State) (a0 : Array Value) (p : Program) (s : State) (m : MethodId) (meth : Method) (c : Code) : Prop := p.tables.exec = Jvm.exec ∧ Z.Warmed39 s.vm ∧ (∀ d ∈ tables_1, d.before a0 Z = true) ∧ c.code = prog_200_method_7_code ∧ c.maxLocals = 1 ∧ s.vm.findClass "com/example/libnodeset/libnodeset/tree/XmlCharacters" = some m.cls ∧ meth.sig.returnType = (some .boolean) ∧ meth.locks = false ∧ meth.name = "isNameStart"
def Q1 (Z : State) (x0 : Int32) (h0 : Heap) (o : Int32) (v : Option Value) (h : Heap) (L : List Loc) : Prop := v = some (.int o) ∧ h = h0 ∧ L = []
def f1_179 (x0 : Int32) : Option (Int32) := (if x0 < (65536 : Int32) then some ((0 : Int32)) else (if (983039 : Int32) < x0 then some ((0 : Int32)) else some ((1 : Int32))))
set_option maxRecDepth 65536 in
set_option maxHeartbeats 40000000 in
theorem w1_179 {p : Program} {l : Launch} {e : Env} {s : State} {m : MethodId} {args : Array Value} {below : List Frame} {meth : Method} {c : Code} {Z : State} {a0 : Array Value} {h0 : Heap} (C : Cx1 Z a0 p s m meth c) :
    ∀ (T : State) (x0 : Int32) (o : Int32), f1_179 x0 = some o → Stand p l e rx1 s m args below meth c T [] 0 0 → T.heap = h0 →  OwnOut p e s below 0 0 (Q1 Z default h0 o) (T.setTop (mkF m 179 #[.val (.int x0)] [])) := by
    obtain ⟨hx, hZ, hw, hby, hml, hown, hret, hlk, hnm⟩ := C
    intro T x0 o hr X0 e0
    rw [f1_179] at hr
    refine OwnOut.go (fun t k => XS.iloadN X0.here hx rfl (hb hby d1_179) rfl k) ?_
    show OwnOut p e s below 0 0 _ (T.setTop (mkF m 180 #[.val (.int x0)] [(.int x0)]))
    refine OwnOut.go (fun t k => X0.ldcInt hx hown (mvT hZ (hw _ (List.mem_of_getElem? (i := 15) rfl))) (g := (mkF m 180 #[.val (.int x0)] [(.int x0)])) rfl (hb hby d1_180) _ k) ?_
    show OwnOut p e s below 0 0 _ (T.setTop (mkF m 182 #[.val (.int x0)] [(.int (65536 : Int32)), (.int x0)]))
    by_cases hc182 : x0 < (65536 : Int32)
    · rw [if_pos hc182] at hr
      refine OwnOut.go (fun t k => XS.icmpYes X0.here hx rfl (pc0 := 182) (pc' := 195) rfl (hb hby d1_182) rfl (XT.ii_lt_t hc182) (by decide) (by decide) k) ?_
      show OwnOut p e s below 0 0 _ (T.setTop (mkF m 195 #[.val (.int x0)] []))
      refine OwnOut.go (fun t k => XT.iconstV X0.here hx rfl (0 : Int32) (hb hby d1_195) rfl k) ?_
      show OwnOut p e s below 0 0 _ (T.setTop (mkF m 196 #[.val (.int x0)] [(.int (0 : Int32))]))
      cases hr
      exact outZ X0 hx hret (hb hby d1_196) hlk (by decide) (by decide) ⟨rfl, e0, rfl⟩
    · rw [if_neg hc182] at hr
      refine OwnOut.go (fun t k => XS.icmpNo X0.here hx rfl (hb hby d1_182) rfl (XT.ii_lt_f hc182) k) ?_
      show OwnOut p e s below 0 0 _ (T.setTop (mkF m 185 #[.val (.int x0)] []))
      refine OwnOut.go (fun t k => XS.iloadN X0.here hx rfl (hb hby d1_185) rfl k) ?_
      show OwnOut p e s below 0 0 _ (T.setTop (mkF m 186 #[.val (.int x0)] [(.int x0)]))
      refine OwnOut.go (fun t k => X0.ldcInt hx hown (mvT hZ (hw _ (List.mem_of_getElem? (i := 32) rfl))) (g := (mkF m 186 #[.val (.int x0)] [(.int x0)])) rfl (hb hby d1_186) _ k) ?_
      show OwnOut p e s below 0 0 _ (T.setTop (mkF m 188 #[.val (.int x0)] [(.int (983039 : Int32)), (.int x0)]))
      by_cases hc188 : (983039 : Int32) < x0
      · rw [if_pos hc188] at hr
        refine OwnOut.go (fun t k => XS.icmpYes X0.here hx rfl (pc0 := 188) (pc' := 195) rfl (hb hby d1_188) rfl (XT.ii_gt_t hc188) (by decide) (by decide) k) ?_
        show OwnOut p e s below 0 0 _ (T.setTop (mkF m 195 #[.val (.int x0)] []))
        refine OwnOut.go (fun t k => XT.iconstV X0.here hx rfl (0 : Int32) (hb hby d1_195) rfl k) ?_
        show OwnOut p e s below 0 0 _ (T.setTop (mkF m 196 #[.val (.int x0)] [(.int (0 : Int32))]))
        cases hr
        exact outZ X0 hx hret (hb hby d1_196) hlk (by decide) (by decide) ⟨rfl, e0, rfl⟩
      · rw [if_neg hc188] at hr
        refine OwnOut.go (fun t k => XS.icmpNo X0.here hx rfl (hb hby d1_188) rfl (XT.ii_gt_f hc188) k) ?_
        show OwnOut p e s below 0 0 _ (T.setTop (mkF m 191 #[.val (.int x0)] []))
        refine OwnOut.go (fun t k => XT.iconstV X0.here hx rfl (1 : Int32) (hb hby d1_191) rfl k) ?_
        show OwnOut p e s below 0 0 _ (T.setTop (mkF m 192 #[.val (.int x0)] [(.int (1 : Int32))]))
        refine OwnOut.go (fun t k => XS.goto X0.here hx rfl (pc0 := 192) (pc' := 196) rfl (hb hby d1_192) (by decide) (by decide) k) ?_
        show OwnOut p e s below 0 0 _ (T.setTop (mkF m 196 #[.val (.int x0)] [(.int (1 : Int32))]))
        cases hr
        exact outZ X0 hx hret (hb hby d1_196) hlk (by decide) (by decide) ⟨rfl, e0, rfl⟩
def f1_167 (x0 : Int32) : Option (Int32) := (if x0 < (65008 : Int32) then (f1_179 x0) else (if (65533 : Int32) < x0 then (f1_179 x0) else some ((1 : Int32))))
set_option maxRecDepth 65536 in
set_option maxHeartbeats 40000000 in
theorem w1_167 {p : Program} {l : Launch} {e : Env} {s : State} {m : MethodId} {args : Array Value} {below : List Frame} {meth : Method} {c : Code} {Z : State} {a0 : Array Value} {h0 : Heap} (C : Cx1 Z a0 p s m meth c) :
    ∀ (T : State) (x0 : Int32) (o : Int32), f1_167 x0 = some o → Stand p l e rx1 s m args below meth c T [] 0 0 → T.heap = h0 →  OwnOut p e s below 0 0 (Q1 Z default h0 o) (T.setTop (mkF m 167 #[.val (.int x0)] [])) := by
    obtain ⟨hx, hZ, hw, hby, hml, hown, hret, hlk, hnm⟩ := C
    intro T x0 o hr X0 e0
    rw [f1_167] at hr
    refine OwnOut.go (fun t k => XS.iloadN X0.here hx rfl (hb hby d1_167) rfl k) ?_
    show OwnOut p e s below 0 0 _ (T.setTop (mkF m 168 #[.val (.int x0)] [(.int x0)]))
    refine OwnOut.go (fun t k => X0.ldcInt hx hown (mvT hZ (hw _ (List.mem_of_getElem? (i := 14) rfl))) (g := (mkF m 168 #[.val (.int x0)] [(.int x0)])) rfl (hb hby d1_168) _ k) ?_
    show OwnOut p e s below 0 0 _ (T.setTop (mkF m 170 #[.val (.int x0)] [(.int (65008 : Int32)), (.int x0)]))
    by_cases hc170 : x0 < (65008 : Int32)
    · rw [if_pos hc170] at hr
      refine OwnOut.go (fun t k => XS.icmpYes X0.here hx rfl (pc0 := 170) (pc' := 179) rfl (hb hby d1_170) rfl (XT.ii_lt_t hc170) (by decide) (by decide) k) ?_
      show OwnOut p e s below 0 0 _ (T.setTop (mkF m 179 #[.val (.int x0)] []))
      exact w1_179 ⟨hx, hZ, hw, hby, hml, hown, hret, hlk, hnm⟩  _ x0 _ hr X0 e0
    · rw [if_neg hc170] at hr
      refine OwnOut.go (fun t k => XS.icmpNo X0.here hx rfl (hb hby d1_170) rfl (XT.ii_lt_f hc170) k) ?_
      show OwnOut p e s below 0 0 _ (T.setTop (mkF m 173 #[.val (.int x0)] []))
      refine OwnOut.go (fun t k => XS.iloadN X0.here hx rfl (hb hby d1_173) rfl k) ?_
      show OwnOut p e s below 0 0 _ (T.setTop (mkF m 174 #[.val (.int x0)] [(.int x0)]))
      refine OwnOut.go (fun t k => X0.ldcInt hx hown (mvT hZ (hw _ (List.mem_of_getElem? (i := 31) rfl))) (g := (mkF m 174 #[.val (.int x0)] [(.int x0)])) rfl (hb hby d1_174) _ k) ?_
      show OwnOut p e s below 0 0 _ (T.setTop (mkF m 176 #[.val (.int x0)] [(.int (65533 : Int32)), (.int x0)]))
      by_cases hc176 : (65533 : Int32) < x0
      · rw [if_pos hc176] at hr
        refine OwnOut.go (fun t k => XS.icmpNo X0.here hx rfl (hb hby d1_176) rfl (XT.ii_le_f hc176) k) ?_
        show OwnOut p e s below 0 0 _ (T.setTop (mkF m 179 #[.val (.int x0)] []))
        exact w1_179 ⟨hx, hZ, hw, hby, hml, hown, hret, hlk, hnm⟩  _ x0 _ hr X0 e0
      · rw [if_neg hc176] at hr
        refine OwnOut.go (fun t k => XS.icmpYes X0.here hx rfl (pc0 := 176) (pc' := 191) rfl (hb hby d1_176) rfl (XT.ii_le_t hc176) (by decide) (by decide) k) ?_
        show OwnOut p e s below 0 0 _ (T.setTop (mkF m 191 #[.val (.int x0)] []))
        refine OwnOut.go (fun t k => XT.iconstV X0.here hx rfl (1 : Int32) (hb hby d1_191) rfl k) ?_
        show OwnOut p e s below 0 0 _ (T.setTop (mkF m 192 #[.val (.int x0)] [(.int (1 : Int32))]))
        refine OwnOut.go (fun t k => XS.goto X0.here hx rfl (pc0 := 192) (pc' := 196) rfl (hb hby d1_192) (by decide) (by decide) k) ?_
        show OwnOut p e s below 0 0 _ (T.setTop (mkF m 196 #[.val (.int x0)] [(.int (1 : Int32))]))
        cases hr
        exact outZ X0 hx hret (hb hby d1_196) hlk (by decide) (by decide) ⟨rfl, e0, rfl⟩
def f1_155 (x0 : Int32) : Option (Int32) := (if x0 < (63744 : Int32) then (f1_167 x0) else (if (64975 : Int32) < x0 then (f1_167 x0) else some ((1 : Int32))))
set_option maxRecDepth 65536 in
set_option maxHeartbeats 40000000 in
theorem w1_155 {p : Program} {l : Launch} {e : Env} {s : State} {m : MethodId} {args : Array Value} {below : List Frame} {meth : Method} {c : Code} {Z : State} {a0 : Array Value} {h0 : Heap} (C : Cx1 Z a0 p s m meth c) :
    ∀ (T : State) (x0 : Int32) (o : Int32), f1_155 x0 = some o → Stand p l e rx1 s m args below meth c T [] 0 0 → T.heap = h0 →  OwnOut p e s below 0 0 (Q1 Z default h0 o) (T.setTop (mkF m 155 #[.val (.int x0)] [])) := by
    obtain ⟨hx, hZ, hw, hby, hml, hown, hret, hlk, hnm⟩ := C
    intro T x0 o hr X0 e0
    rw [f1_155] at hr
    refine OwnOut.go (fun t k => XS.iloadN X0.here hx rfl (hb hby d1_155) rfl k) ?_
    show OwnOut p e s below 0 0 _ (T.setTop (mkF m 156 #[.val (.int x0)] [(.int x0)]))
    refine OwnOut.go (fun t k => X0.ldcInt hx hown (mvT hZ (hw _ (List.mem_of_getElem? (i := 13) rfl))) (g := (mkF m 156 #[.val (.int x0)] [(.int x0)])) rfl (hb hby d1_156) _ k) ?_
    show OwnOut p e s below 0 0 _ (T.setTop (mkF m 158 #[.val (.int x0)] [(.int (63744 : Int32)), (.int x0)]))
    by_cases hc158 : x0 < (63744 : Int32)
    · rw [if_pos hc158] at hr
      refine OwnOut.go (fun t k => XS.icmpYes X0.here hx rfl (pc0 := 158) (pc' := 167) rfl (hb hby d1_158) rfl (XT.ii_lt_t hc158) (by decide) (by decide) k) ?_
      show OwnOut p e s below 0 0 _ (T.setTop (mkF m 167 #[.val (.int x0)] []))
      exact w1_167 ⟨hx, hZ, hw, hby, hml, hown, hret, hlk, hnm⟩  _ x0 _ hr X0 e0
    · rw [if_neg hc158] at hr
      refine OwnOut.go (fun t k => XS.icmpNo X0.here hx rfl (hb hby d1_158) rfl (XT.ii_lt_f hc158) k) ?_
      show OwnOut p e s below 0 0 _ (T.setTop (mkF m 161 #[.val (.int x0)] []))
      refine OwnOut.go (fun t k => XS.iloadN X0.here hx rfl (hb hby d1_161) rfl k) ?_
      show OwnOut p e s below 0 0 _ (T.setTop (mkF m 162 #[.val (.int x0)] [(.int x0)]))
      refine OwnOut.go (fun t k => X0.ldcInt hx hown (mvT hZ (hw _ (List.mem_of_getElem? (i := 30) rfl))) (g := (mkF m 162 #[.val (.int x0)] [(.int x0)])) rfl (hb hby d1_162) _ k) ?_
      show OwnOut p e s below 0 0 _ (T.setTop (mkF m 164 #[.val (.int x0)] [(.int (64975 : Int32)), (.int x0)]))
      by_cases hc164 : (64975 : Int32) < x0
      · rw [if_pos hc164] at hr
        refine OwnOut.go (fun t k => XS.icmpNo X0.here hx rfl (hb hby d1_164) rfl (XT.ii_le_f hc164) k) ?_
        show OwnOut p e s below 0 0 _ (T.setTop (mkF m 167 #[.val (.int x0)] []))
        exact w1_167 ⟨hx, hZ, hw, hby, hml, hown, hret, hlk, hnm⟩  _ x0 _ hr X0 e0
      · rw [if_neg hc164] at hr
        refine OwnOut.go (fun t k => XS.icmpYes X0.here hx rfl (pc0 := 164) (pc' := 191) rfl (hb hby d1_164) rfl (XT.ii_le_t hc164) (by decide) (by decide) k) ?_
        show OwnOut p e s below 0 0 _ (T.setTop (mkF m 191 #[.val (.int x0)] []))
        refine OwnOut.go (fun t k => XT.iconstV X0.here hx rfl (1 : Int32) (hb hby d1_191) rfl k) ?_
        show OwnOut p e s below 0 0 _ (T.setTop (mkF m 192 #[.val (.int x0)] [(.int (1 : Int32))]))
        refine OwnOut.go (fun t k => XS.goto X0.here hx rfl (pc0 := 192) (pc' := 196) rfl (hb hby d1_192) (by decide) (by decide) k) ?_
        show OwnOut p e s below 0 0 _ (T.setTop (mkF m 196 #[.val (.int x0)] [(.int (1 : Int32))]))
        cases hr
        exact outZ X0 hx hret (hb hby d1_196) hlk (by decide) (by decide) ⟨rfl, e0, rfl⟩
def f1_142 (x0 : Int32) : Option (Int32) := (if x0 < (12289 : Int32) then (f1_155 x0) else (if (55295 : Int32) < x0 then (f1_155 x0) else some ((1 : Int32))))
set_option maxRecDepth 65536 in
set_option maxHeartbeats 40000000 in
theorem w1_142 {p : Program} {l : Launch} {e : Env} {s : State} {m : MethodId} {args : Array Value} {below : List Frame} {meth : Method} {c : Code} {Z : State} {a0 : Array Value} {h0 : Heap} (C : Cx1 Z a0 p s m meth c) :
    ∀ (T : State) (x0 : Int32) (o : Int32), f1_142 x0 = some o → Stand p l e rx1 s m args below meth c T [] 0 0 → T.heap = h0 →  OwnOut p e s below 0 0 (Q1 Z default h0 o) (T.setTop (mkF m 142 #[.val (.int x0)] [])) := by
    obtain ⟨hx, hZ, hw, hby, hml, hown, hret, hlk, hnm⟩ := C
    intro T x0 o hr X0 e0
    rw [f1_142] at hr
    refine OwnOut.go (fun t k => XS.iloadN X0.here hx rfl (hb hby d1_142) rfl k) ?_
    show OwnOut p e s below 0 0 _ (T.setTop (mkF m 143 #[.val (.int x0)] [(.int x0)]))
    refine OwnOut.go (fun t k => XT.sipushV X0.here hx rfl (12289 : Int32) (hb hby d1_143) rfl k) ?_
    show OwnOut p e s below 0 0 _ (T.setTop (mkF m 146 #[.val (.int x0)] [(.int (12289 : Int32)), (.int x0)]))
    by_cases hc146 : x0 < (12289 : Int32)
    · rw [if_pos hc146] at hr
      refine OwnOut.go (fun t k => XS.icmpYes X0.here hx rfl (pc0 := 146) (pc' := 155) rfl (hb hby d1_146) rfl (XT.ii_lt_t hc146) (by decide) (by decide) k) ?_
      show OwnOut p e s below 0 0 _ (T.setTop (mkF m 155 #[.val (.int x0)] []))
      exact w1_155 ⟨hx, hZ, hw, hby, hml, hown, hret, hlk, hnm⟩  _ x0 _ hr X0 e0
    · rw [if_neg hc146] at hr
      refine OwnOut.go (fun t k => XS.icmpNo X0.here hx rfl (hb hby d1_146) rfl (XT.ii_lt_f hc146) k) ?_
      show OwnOut p e s below 0 0 _ (T.setTop (mkF m 149 #[.val (.int x0)] []))
      refine OwnOut.go (fun t k => XS.iloadN X0.here hx rfl (hb hby d1_149) rfl k) ?_
      show OwnOut p e s below 0 0 _ (T.setTop (mkF m 150 #[.val (.int x0)] [(.int x0)]))
      refine OwnOut.go (fun t k => X0.ldcInt hx hown (mvT hZ (hw _ (List.mem_of_getElem? (i := 29) rfl))) (g := (mkF m 150 #[.val (.int x0)] [(.int x0)])) rfl (hb hby d1_150) _ k) ?_
      show OwnOut p e s below 0 0 _ (T.setTop (mkF m 152 #[.val (.int x0)] [(.int (55295 : Int32)), (.int x0)]))
      by_cases hc152 : (55295 : Int32) < x0
      · rw [if_pos hc152] at hr
        refine OwnOut.go (fun t k => XS.icmpNo X0.here hx rfl (hb hby d1_152) rfl (XT.ii_le_f hc152) k) ?_
        show OwnOut p e s below 0 0 _ (T.setTop (mkF m 155 #[.val (.int x0)] []))
        exact w1_155 ⟨hx, hZ, hw, hby, hml, hown, hret, hlk, hnm⟩  _ x0 _ hr X0 e0
      · rw [if_neg hc152] at hr
        refine OwnOut.go (fun t k => XS.icmpYes X0.here hx rfl (pc0 := 152) (pc' := 191) rfl (hb hby d1_152) rfl (XT.ii_le_t hc152) (by decide) (by decide) k) ?_
        show OwnOut p e s below 0 0 _ (T.setTop (mkF m 191 #[.val (.int x0)] []))
        refine OwnOut.go (fun t k => XT.iconstV X0.here hx rfl (1 : Int32) (hb hby d1_191) rfl k) ?_
        show OwnOut p e s below 0 0 _ (T.setTop (mkF m 192 #[.val (.int x0)] [(.int (1 : Int32))]))
        refine OwnOut.go (fun t k => XS.goto X0.here hx rfl (pc0 := 192) (pc' := 196) rfl (hb hby d1_192) (by decide) (by decide) k) ?_
        show OwnOut p e s below 0 0 _ (T.setTop (mkF m 196 #[.val (.int x0)] [(.int (1 : Int32))]))
        cases hr
        exact outZ X0 hx hret (hb hby d1_196) hlk (by decide) (by decide) ⟨rfl, e0, rfl⟩
def f1_128 (x0 : Int32) : Option (Int32) := (if x0 < (11264 : Int32) then (f1_142 x0) else (if (12271 : Int32) < x0 then (f1_142 x0) else some ((1 : Int32))))
set_option maxRecDepth 65536 in
set_option maxHeartbeats 40000000 in
theorem w1_128 {p : Program} {l : Launch} {e : Env} {s : State} {m : MethodId} {args : Array Value} {below : List Frame} {meth : Method} {c : Code} {Z : State} {a0 : Array Value} {h0 : Heap} (C : Cx1 Z a0 p s m meth c) :
    ∀ (T : State) (x0 : Int32) (o : Int32), f1_128 x0 = some o → Stand p l e rx1 s m args below meth c T [] 0 0 → T.heap = h0 →  OwnOut p e s below 0 0 (Q1 Z default h0 o) (T.setTop (mkF m 128 #[.val (.int x0)] [])) := by
    obtain ⟨hx, hZ, hw, hby, hml, hown, hret, hlk, hnm⟩ := C
    intro T x0 o hr X0 e0
    rw [f1_128] at hr
    refine OwnOut.go (fun t k => XS.iloadN X0.here hx rfl (hb hby d1_128) rfl k) ?_
    show OwnOut p e s below 0 0 _ (T.setTop (mkF m 129 #[.val (.int x0)] [(.int x0)]))
    refine OwnOut.go (fun t k => XT.sipushV X0.here hx rfl (11264 : Int32) (hb hby d1_129) rfl k) ?_
    show OwnOut p e s below 0 0 _ (T.setTop (mkF m 132 #[.val (.int x0)] [(.int (11264 : Int32)), (.int x0)]))
    by_cases hc132 : x0 < (11264 : Int32)
    · rw [if_pos hc132] at hr
      refine OwnOut.go (fun t k => XS.icmpYes X0.here hx rfl (pc0 := 132) (pc' := 142) rfl (hb hby d1_132) rfl (XT.ii_lt_t hc132) (by decide) (by decide) k) ?_
      show OwnOut p e s below 0 0 _ (T.setTop (mkF m 142 #[.val (.int x0)] []))
      exact w1_142 ⟨hx, hZ, hw, hby, hml, hown, hret, hlk, hnm⟩  _ x0 _ hr X0 e0
    · rw [if_neg hc132] at hr
      refine OwnOut.go (fun t k => XS.icmpNo X0.here hx rfl (hb hby d1_132) rfl (XT.ii_lt_f hc132) k) ?_
      show OwnOut p e s below 0 0 _ (T.setTop (mkF m 135 #[.val (.int x0)] []))
      refine OwnOut.go (fun t k => XS.iloadN X0.here hx rfl (hb hby d1_135) rfl k) ?_
      show OwnOut p e s below 0 0 _ (T.setTop (mkF m 136 #[.val (.int x0)] [(.int x0)]))
      refine OwnOut.go (fun t k => XT.sipushV X0.here hx rfl (12271 : Int32) (hb hby d1_136) rfl k) ?_
      show OwnOut p e s below 0 0 _ (T.setTop (mkF m 139 #[.val (.int x0)] [(.int (12271 : Int32)), (.int x0)]))
      by_cases hc139 : (12271 : Int32) < x0
      · rw [if_pos hc139] at hr
        refine OwnOut.go (fun t k => XS.icmpNo X0.here hx rfl (hb hby d1_139) rfl (XT.ii_le_f hc139) k) ?_
        show OwnOut p e s below 0 0 _ (T.setTop (mkF m 142 #[.val (.int x0)] []))
        exact w1_142 ⟨hx, hZ, hw, hby, hml, hown, hret, hlk, hnm⟩  _ x0 _ hr X0 e0
      · rw [if_neg hc139] at hr
        refine OwnOut.go (fun t k => XS.icmpYes X0.here hx rfl (pc0 := 139) (pc' := 191) rfl (hb hby d1_139) rfl (XT.ii_le_t hc139) (by decide) (by decide) k) ?_
        show OwnOut p e s below 0 0 _ (T.setTop (mkF m 191 #[.val (.int x0)] []))
        refine OwnOut.go (fun t k => XT.iconstV X0.here hx rfl (1 : Int32) (hb hby d1_191) rfl k) ?_
        show OwnOut p e s below 0 0 _ (T.setTop (mkF m 192 #[.val (.int x0)] [(.int (1 : Int32))]))
        refine OwnOut.go (fun t k => XS.goto X0.here hx rfl (pc0 := 192) (pc' := 196) rfl (hb hby d1_192) (by decide) (by decide) k) ?_
        show OwnOut p e s below 0 0 _ (T.setTop (mkF m 196 #[.val (.int x0)] [(.int (1 : Int32))]))
        cases hr
        exact outZ X0 hx hret (hb hby d1_196) hlk (by decide) (by decide) ⟨rfl, e0, rfl⟩
def f1_114 (x0 : Int32) : Option (Int32) := (if x0 < (8304 : Int32) then (f1_128 x0) else (if (8591 : Int32) < x0 then (f1_128 x0) else some ((1 : Int32))))
set_option maxRecDepth 65536 in
set_option maxHeartbeats 40000000 in
theorem w1_114 {p : Program} {l : Launch} {e : Env} {s : State} {m : MethodId} {args : Array Value} {below : List Frame} {meth : Method} {c : Code} {Z : State} {a0 : Array Value} {h0 : Heap} (C : Cx1 Z a0 p s m meth c) :
    ∀ (T : State) (x0 : Int32) (o : Int32), f1_114 x0 = some o → Stand p l e rx1 s m args below meth c T [] 0 0 → T.heap = h0 →  OwnOut p e s below 0 0 (Q1 Z default h0 o) (T.setTop (mkF m 114 #[.val (.int x0)] [])) := by
    obtain ⟨hx, hZ, hw, hby, hml, hown, hret, hlk, hnm⟩ := C
    intro T x0 o hr X0 e0
    rw [f1_114] at hr
    refine OwnOut.go (fun t k => XS.iloadN X0.here hx rfl (hb hby d1_114) rfl k) ?_
    show OwnOut p e s below 0 0 _ (T.setTop (mkF m 115 #[.val (.int x0)] [(.int x0)]))
    refine OwnOut.go (fun t k => XT.sipushV X0.here hx rfl (8304 : Int32) (hb hby d1_115) rfl k) ?_
    show OwnOut p e s below 0 0 _ (T.setTop (mkF m 118 #[.val (.int x0)] [(.int (8304 : Int32)), (.int x0)]))
    by_cases hc118 : x0 < (8304 : Int32)
    · rw [if_pos hc118] at hr
      refine OwnOut.go (fun t k => XS.icmpYes X0.here hx rfl (pc0 := 118) (pc' := 128) rfl (hb hby d1_118) rfl (XT.ii_lt_t hc118) (by decide) (by decide) k) ?_
      show OwnOut p e s below 0 0 _ (T.setTop (mkF m 128 #[.val (.int x0)] []))
      exact w1_128 ⟨hx, hZ, hw, hby, hml, hown, hret, hlk, hnm⟩  _ x0 _ hr X0 e0
    · rw [if_neg hc118] at hr
      refine OwnOut.go (fun t k => XS.icmpNo X0.here hx rfl (hb hby d1_118) rfl (XT.ii_lt_f hc118) k) ?_
      show OwnOut p e s below 0 0 _ (T.setTop (mkF m 121 #[.val (.int x0)] []))
      refine OwnOut.go (fun t k => XS.iloadN X0.here hx rfl (hb hby d1_121) rfl k) ?_
      show OwnOut p e s below 0 0 _ (T.setTop (mkF m 122 #[.val (.int x0)] [(.int x0)]))
      refine OwnOut.go (fun t k => XT.sipushV X0.here hx rfl (8591 : Int32) (hb hby d1_122) rfl k) ?_
      show OwnOut p e s below 0 0 _ (T.setTop (mkF m 125 #[.val (.int x0)] [(.int (8591 : Int32)), (.int x0)]))
      by_cases hc125 : (8591 : Int32) < x0
      · rw [if_pos hc125] at hr
        refine OwnOut.go (fun t k => XS.icmpNo X0.here hx rfl (hb hby d1_125) rfl (XT.ii_le_f hc125) k) ?_
        show OwnOut p e s below 0 0 _ (T.setTop (mkF m 128 #[.val (.int x0)] []))
        exact w1_128 ⟨hx, hZ, hw, hby, hml, hown, hret, hlk, hnm⟩  _ x0 _ hr X0 e0
      · rw [if_neg hc125] at hr
        refine OwnOut.go (fun t k => XS.icmpYes X0.here hx rfl (pc0 := 125) (pc' := 191) rfl (hb hby d1_125) rfl (XT.ii_le_t hc125) (by decide) (by decide) k) ?_
        show OwnOut p e s below 0 0 _ (T.setTop (mkF m 191 #[.val (.int x0)] []))
        refine OwnOut.go (fun t k => XT.iconstV X0.here hx rfl (1 : Int32) (hb hby d1_191) rfl k) ?_
        show OwnOut p e s below 0 0 _ (T.setTop (mkF m 192 #[.val (.int x0)] [(.int (1 : Int32))]))
        refine OwnOut.go (fun t k => XS.goto X0.here hx rfl (pc0 := 192) (pc' := 196) rfl (hb hby d1_192) (by decide) (by decide) k) ?_
        show OwnOut p e s below 0 0 _ (T.setTop (mkF m 196 #[.val (.int x0)] [(.int (1 : Int32))]))
        cases hr
        exact outZ X0 hx hret (hb hby d1_196) hlk (by decide) (by decide) ⟨rfl, e0, rfl⟩
def f1_100 (x0 : Int32) : Option (Int32) := (if x0 < (8204 : Int32) then (f1_114 x0) else (if (8205 : Int32) < x0 then (f1_114 x0) else some ((1 : Int32))))
set_option maxRecDepth 65536 in
set_option maxHeartbeats 40000000 in
theorem w1_100 {p : Program} {l : Launch} {e : Env} {s : State} {m : MethodId} {args : Array Value} {below : List Frame} {meth : Method} {c : Code} {Z : State} {a0 : Array Value} {h0 : Heap} (C : Cx1 Z a0 p s m meth c) :
    ∀ (T : State) (x0 : Int32) (o : Int32), f1_100 x0 = some o → Stand p l e rx1 s m args below meth c T [] 0 0 → T.heap = h0 →  OwnOut p e s below 0 0 (Q1 Z default h0 o) (T.setTop (mkF m 100 #[.val (.int x0)] [])) := by
    obtain ⟨hx, hZ, hw, hby, hml, hown, hret, hlk, hnm⟩ := C
    intro T x0 o hr X0 e0
    rw [f1_100] at hr
    refine OwnOut.go (fun t k => XS.iloadN X0.here hx rfl (hb hby d1_100) rfl k) ?_
    show OwnOut p e s below 0 0 _ (T.setTop (mkF m 101 #[.val (.int x0)] [(.int x0)]))
    refine OwnOut.go (fun t k => XT.sipushV X0.here hx rfl (8204 : Int32) (hb hby d1_101) rfl k) ?_
    show OwnOut p e s below 0 0 _ (T.setTop (mkF m 104 #[.val (.int x0)] [(.int (8204 : Int32)), (.int x0)]))
    by_cases hc104 : x0 < (8204 : Int32)
    · rw [if_pos hc104] at hr
      refine OwnOut.go (fun t k => XS.icmpYes X0.here hx rfl (pc0 := 104) (pc' := 114) rfl (hb hby d1_104) rfl (XT.ii_lt_t hc104) (by decide) (by decide) k) ?_
      show OwnOut p e s below 0 0 _ (T.setTop (mkF m 114 #[.val (.int x0)] []))
      exact w1_114 ⟨hx, hZ, hw, hby, hml, hown, hret, hlk, hnm⟩  _ x0 _ hr X0 e0
    · rw [if_neg hc104] at hr
      refine OwnOut.go (fun t k => XS.icmpNo X0.here hx rfl (hb hby d1_104) rfl (XT.ii_lt_f hc104) k) ?_
      show OwnOut p e s below 0 0 _ (T.setTop (mkF m 107 #[.val (.int x0)] []))
      refine OwnOut.go (fun t k => XS.iloadN X0.here hx rfl (hb hby d1_107) rfl k) ?_
      show OwnOut p e s below 0 0 _ (T.setTop (mkF m 108 #[.val (.int x0)] [(.int x0)]))
      refine OwnOut.go (fun t k => XT.sipushV X0.here hx rfl (8205 : Int32) (hb hby d1_108) rfl k) ?_
      show OwnOut p e s below 0 0 _ (T.setTop (mkF m 111 #[.val (.int x0)] [(.int (8205 : Int32)), (.int x0)]))
      by_cases hc111 : (8205 : Int32) < x0
      · rw [if_pos hc111] at hr
        refine OwnOut.go (fun t k => XS.icmpNo X0.here hx rfl (hb hby d1_111) rfl (XT.ii_le_f hc111) k) ?_
        show OwnOut p e s below 0 0 _ (T.setTop (mkF m 114 #[.val (.int x0)] []))
        exact w1_114 ⟨hx, hZ, hw, hby, hml, hown, hret, hlk, hnm⟩  _ x0 _ hr X0 e0
      · rw [if_neg hc111] at hr
        refine OwnOut.go (fun t k => XS.icmpYes X0.here hx rfl (pc0 := 111) (pc' := 191) rfl (hb hby d1_111) rfl (XT.ii_le_t hc111) (by decide) (by decide) k) ?_
        show OwnOut p e s below 0 0 _ (T.setTop (mkF m 191 #[.val (.int x0)] []))
        refine OwnOut.go (fun t k => XT.iconstV X0.here hx rfl (1 : Int32) (hb hby d1_191) rfl k) ?_
        show OwnOut p e s below 0 0 _ (T.setTop (mkF m 192 #[.val (.int x0)] [(.int (1 : Int32))]))
        refine OwnOut.go (fun t k => XS.goto X0.here hx rfl (pc0 := 192) (pc' := 196) rfl (hb hby d1_192) (by decide) (by decide) k) ?_
        show OwnOut p e s below 0 0 _ (T.setTop (mkF m 196 #[.val (.int x0)] [(.int (1 : Int32))]))
        cases hr
        exact outZ X0 hx hret (hb hby d1_196) hlk (by decide) (by decide) ⟨rfl, e0, rfl⟩
def f1_86 (x0 : Int32) : Option (Int32) := (if x0 < (895 : Int32) then (f1_100 x0) else (if (8191 : Int32) < x0 then (f1_100 x0) else some ((1 : Int32))))
set_option maxRecDepth 65536 in
set_option maxHeartbeats 40000000 in
theorem w1_86 {p : Program} {l : Launch} {e : Env} {s : State} {m : MethodId} {args : Array Value} {below : List Frame} {meth : Method} {c : Code} {Z : State} {a0 : Array Value} {h0 : Heap} (C : Cx1 Z a0 p s m meth c) :
    ∀ (T : State) (x0 : Int32) (o : Int32), f1_86 x0 = some o → Stand p l e rx1 s m args below meth c T [] 0 0 → T.heap = h0 →  OwnOut p e s below 0 0 (Q1 Z default h0 o) (T.setTop (mkF m 86 #[.val (.int x0)] [])) := by
    obtain ⟨hx, hZ, hw, hby, hml, hown, hret, hlk, hnm⟩ := C
    intro T x0 o hr X0 e0
    rw [f1_86] at hr
    refine OwnOut.go (fun t k => XS.iloadN X0.here hx rfl (hb hby d1_86) rfl k) ?_
    show OwnOut p e s below 0 0 _ (T.setTop (mkF m 87 #[.val (.int x0)] [(.int x0)]))
    refine OwnOut.go (fun t k => XT.sipushV X0.here hx rfl (895 : Int32) (hb hby d1_87) rfl k) ?_
    show OwnOut p e s below 0 0 _ (T.setTop (mkF m 90 #[.val (.int x0)] [(.int (895 : Int32)), (.int x0)]))
    by_cases hc90 : x0 < (895 : Int32)
    · rw [if_pos hc90] at hr
      refine OwnOut.go (fun t k => XS.icmpYes X0.here hx rfl (pc0 := 90) (pc' := 100) rfl (hb hby d1_90) rfl (XT.ii_lt_t hc90) (by decide) (by decide) k) ?_
      show OwnOut p e s below 0 0 _ (T.setTop (mkF m 100 #[.val (.int x0)] []))
      exact w1_100 ⟨hx, hZ, hw, hby, hml, hown, hret, hlk, hnm⟩  _ x0 _ hr X0 e0
    · rw [if_neg hc90] at hr
      refine OwnOut.go (fun t k => XS.icmpNo X0.here hx rfl (hb hby d1_90) rfl (XT.ii_lt_f hc90) k) ?_
      show OwnOut p e s below 0 0 _ (T.setTop (mkF m 93 #[.val (.int x0)] []))
      refine OwnOut.go (fun t k => XS.iloadN X0.here hx rfl (hb hby d1_93) rfl k) ?_
      show OwnOut p e s below 0 0 _ (T.setTop (mkF m 94 #[.val (.int x0)] [(.int x0)]))
      refine OwnOut.go (fun t k => XT.sipushV X0.here hx rfl (8191 : Int32) (hb hby d1_94) rfl k) ?_
      show OwnOut p e s below 0 0 _ (T.setTop (mkF m 97 #[.val (.int x0)] [(.int (8191 : Int32)), (.int x0)]))
      by_cases hc97 : (8191 : Int32) < x0
      · rw [if_pos hc97] at hr
        refine OwnOut.go (fun t k => XS.icmpNo X0.here hx rfl (hb hby d1_97) rfl (XT.ii_le_f hc97) k) ?_
        show OwnOut p e s below 0 0 _ (T.setTop (mkF m 100 #[.val (.int x0)] []))
        exact w1_100 ⟨hx, hZ, hw, hby, hml, hown, hret, hlk, hnm⟩  _ x0 _ hr X0 e0
      · rw [if_neg hc97] at hr
        refine OwnOut.go (fun t k => XS.icmpYes X0.here hx rfl (pc0 := 97) (pc' := 191) rfl (hb hby d1_97) rfl (XT.ii_le_t hc97) (by decide) (by decide) k) ?_
        show OwnOut p e s below 0 0 _ (T.setTop (mkF m 191 #[.val (.int x0)] []))
        refine OwnOut.go (fun t k => XT.iconstV X0.here hx rfl (1 : Int32) (hb hby d1_191) rfl k) ?_
        show OwnOut p e s below 0 0 _ (T.setTop (mkF m 192 #[.val (.int x0)] [(.int (1 : Int32))]))
        refine OwnOut.go (fun t k => XS.goto X0.here hx rfl (pc0 := 192) (pc' := 196) rfl (hb hby d1_192) (by decide) (by decide) k) ?_
        show OwnOut p e s below 0 0 _ (T.setTop (mkF m 196 #[.val (.int x0)] [(.int (1 : Int32))]))
        cases hr
        exact outZ X0 hx hret (hb hby d1_196) hlk (by decide) (by decide) ⟨rfl, e0, rfl⟩
def f1_72 (x0 : Int32) : Option (Int32) := (if x0 < (880 : Int32) then (f1_86 x0) else (if (893 : Int32) < x0 then (f1_86 x0) else some ((1 : Int32))))
set_option maxRecDepth 65536 in
set_option maxHeartbeats 40000000 in
theorem w1_72 {p : Program} {l : Launch} {e : Env} {s : State} {m : MethodId} {args : Array Value} {below : List Frame} {meth : Method} {c : Code} {Z : State} {a0 : Array Value} {h0 : Heap} (C : Cx1 Z a0 p s m meth c) :
    ∀ (T : State) (x0 : Int32) (o : Int32), f1_72 x0 = some o → Stand p l e rx1 s m args below meth c T [] 0 0 → T.heap = h0 →  OwnOut p e s below 0 0 (Q1 Z default h0 o) (T.setTop (mkF m 72 #[.val (.int x0)] [])) := by
    obtain ⟨hx, hZ, hw, hby, hml, hown, hret, hlk, hnm⟩ := C
    intro T x0 o hr X0 e0
    rw [f1_72] at hr
    refine OwnOut.go (fun t k => XS.iloadN X0.here hx rfl (hb hby d1_72) rfl k) ?_
    show OwnOut p e s below 0 0 _ (T.setTop (mkF m 73 #[.val (.int x0)] [(.int x0)]))
    refine OwnOut.go (fun t k => XT.sipushV X0.here hx rfl (880 : Int32) (hb hby d1_73) rfl k) ?_
    show OwnOut p e s below 0 0 _ (T.setTop (mkF m 76 #[.val (.int x0)] [(.int (880 : Int32)), (.int x0)]))
    by_cases hc76 : x0 < (880 : Int32)
    · rw [if_pos hc76] at hr
      refine OwnOut.go (fun t k => XS.icmpYes X0.here hx rfl (pc0 := 76) (pc' := 86) rfl (hb hby d1_76) rfl (XT.ii_lt_t hc76) (by decide) (by decide) k) ?_
      show OwnOut p e s below 0 0 _ (T.setTop (mkF m 86 #[.val (.int x0)] []))
      exact w1_86 ⟨hx, hZ, hw, hby, hml, hown, hret, hlk, hnm⟩  _ x0 _ hr X0 e0
    · rw [if_neg hc76] at hr
      refine OwnOut.go (fun t k => XS.icmpNo X0.here hx rfl (hb hby d1_76) rfl (XT.ii_lt_f hc76) k) ?_
      show OwnOut p e s below 0 0 _ (T.setTop (mkF m 79 #[.val (.int x0)] []))
      refine OwnOut.go (fun t k => XS.iloadN X0.here hx rfl (hb hby d1_79) rfl k) ?_
      show OwnOut p e s below 0 0 _ (T.setTop (mkF m 80 #[.val (.int x0)] [(.int x0)]))
      refine OwnOut.go (fun t k => XT.sipushV X0.here hx rfl (893 : Int32) (hb hby d1_80) rfl k) ?_
      show OwnOut p e s below 0 0 _ (T.setTop (mkF m 83 #[.val (.int x0)] [(.int (893 : Int32)), (.int x0)]))
      by_cases hc83 : (893 : Int32) < x0
      · rw [if_pos hc83] at hr
        refine OwnOut.go (fun t k => XS.icmpNo X0.here hx rfl (hb hby d1_83) rfl (XT.ii_le_f hc83) k) ?_
        show OwnOut p e s below 0 0 _ (T.setTop (mkF m 86 #[.val (.int x0)] []))
        exact w1_86 ⟨hx, hZ, hw, hby, hml, hown, hret, hlk, hnm⟩  _ x0 _ hr X0 e0
      · rw [if_neg hc83] at hr
        refine OwnOut.go (fun t k => XS.icmpYes X0.here hx rfl (pc0 := 83) (pc' := 191) rfl (hb hby d1_83) rfl (XT.ii_le_t hc83) (by decide) (by decide) k) ?_
        show OwnOut p e s below 0 0 _ (T.setTop (mkF m 191 #[.val (.int x0)] []))
        refine OwnOut.go (fun t k => XT.iconstV X0.here hx rfl (1 : Int32) (hb hby d1_191) rfl k) ?_
        show OwnOut p e s below 0 0 _ (T.setTop (mkF m 192 #[.val (.int x0)] [(.int (1 : Int32))]))
        refine OwnOut.go (fun t k => XS.goto X0.here hx rfl (pc0 := 192) (pc' := 196) rfl (hb hby d1_192) (by decide) (by decide) k) ?_
        show OwnOut p e s below 0 0 _ (T.setTop (mkF m 196 #[.val (.int x0)] [(.int (1 : Int32))]))
        cases hr
        exact outZ X0 hx hret (hb hby d1_196) hlk (by decide) (by decide) ⟨rfl, e0, rfl⟩
def f1_58 (x0 : Int32) : Option (Int32) := (if x0 < (248 : Int32) then (f1_72 x0) else (if (767 : Int32) < x0 then (f1_72 x0) else some ((1 : Int32))))
set_option maxRecDepth 65536 in
set_option maxHeartbeats 40000000 in
theorem w1_58 {p : Program} {l : Launch} {e : Env} {s : State} {m : MethodId} {args : Array Value} {below : List Frame} {meth : Method} {c : Code} {Z : State} {a0 : Array Value} {h0 : Heap} (C : Cx1 Z a0 p s m meth c) :
    ∀ (T : State) (x0 : Int32) (o : Int32), f1_58 x0 = some o → Stand p l e rx1 s m args below meth c T [] 0 0 → T.heap = h0 →  OwnOut p e s below 0 0 (Q1 Z default h0 o) (T.setTop (mkF m 58 #[.val (.int x0)] [])) := by
    obtain ⟨hx, hZ, hw, hby, hml, hown, hret, hlk, hnm⟩ := C
    intro T x0 o hr X0 e0
    rw [f1_58] at hr
    refine OwnOut.go (fun t k => XS.iloadN X0.here hx rfl (hb hby d1_58) rfl k) ?_
    show OwnOut p e s below 0 0 _ (T.setTop (mkF m 59 #[.val (.int x0)] [(.int x0)]))
    refine OwnOut.go (fun t k => XT.sipushV X0.here hx rfl (248 : Int32) (hb hby d1_59) rfl k) ?_
    show OwnOut p e s below 0 0 _ (T.setTop (mkF m 62 #[.val (.int x0)] [(.int (248 : Int32)), (.int x0)]))
    by_cases hc62 : x0 < (248 : Int32)
    · rw [if_pos hc62] at hr
      refine OwnOut.go (fun t k => XS.icmpYes X0.here hx rfl (pc0 := 62) (pc' := 72) rfl (hb hby d1_62) rfl (XT.ii_lt_t hc62) (by decide) (by decide) k) ?_
      show OwnOut p e s below 0 0 _ (T.setTop (mkF m 72 #[.val (.int x0)] []))
      exact w1_72 ⟨hx, hZ, hw, hby, hml, hown, hret, hlk, hnm⟩  _ x0 _ hr X0 e0
    · rw [if_neg hc62] at hr
      refine OwnOut.go (fun t k => XS.icmpNo X0.here hx rfl (hb hby d1_62) rfl (XT.ii_lt_f hc62) k) ?_
      show OwnOut p e s below 0 0 _ (T.setTop (mkF m 65 #[.val (.int x0)] []))
      refine OwnOut.go (fun t k => XS.iloadN X0.here hx rfl (hb hby d1_65) rfl k) ?_
      show OwnOut p e s below 0 0 _ (T.setTop (mkF m 66 #[.val (.int x0)] [(.int x0)]))
      refine OwnOut.go (fun t k => XT.sipushV X0.here hx rfl (767 : Int32) (hb hby d1_66) rfl k) ?_
      show OwnOut p e s below 0 0 _ (T.setTop (mkF m 69 #[.val (.int x0)] [(.int (767 : Int32)), (.int x0)]))
      by_cases hc69 : (767 : Int32) < x0
      · rw [if_pos hc69] at hr
        refine OwnOut.go (fun t k => XS.icmpNo X0.here hx rfl (hb hby d1_69) rfl (XT.ii_le_f hc69) k) ?_
        show OwnOut p e s below 0 0 _ (T.setTop (mkF m 72 #[.val (.int x0)] []))
        exact w1_72 ⟨hx, hZ, hw, hby, hml, hown, hret, hlk, hnm⟩  _ x0 _ hr X0 e0
      · rw [if_neg hc69] at hr
        refine OwnOut.go (fun t k => XS.icmpYes X0.here hx rfl (pc0 := 69) (pc' := 191) rfl (hb hby d1_69) rfl (XT.ii_le_t hc69) (by decide) (by decide) k) ?_
        show OwnOut p e s below 0 0 _ (T.setTop (mkF m 191 #[.val (.int x0)] []))
        refine OwnOut.go (fun t k => XT.iconstV X0.here hx rfl (1 : Int32) (hb hby d1_191) rfl k) ?_
        show OwnOut p e s below 0 0 _ (T.setTop (mkF m 192 #[.val (.int x0)] [(.int (1 : Int32))]))
        refine OwnOut.go (fun t k => XS.goto X0.here hx rfl (pc0 := 192) (pc' := 196) rfl (hb hby d1_192) (by decide) (by decide) k) ?_
        show OwnOut p e s below 0 0 _ (T.setTop (mkF m 196 #[.val (.int x0)] [(.int (1 : Int32))]))
        cases hr
        exact outZ X0 hx hret (hb hby d1_196) hlk (by decide) (by decide) ⟨rfl, e0, rfl⟩
def f1_44 (x0 : Int32) : Option (Int32) := (if x0 < (216 : Int32) then (f1_58 x0) else (if (246 : Int32) < x0 then (f1_58 x0) else some ((1 : Int32))))
set_option maxRecDepth 65536 in
set_option maxHeartbeats 40000000 in
theorem w1_44 {p : Program} {l : Launch} {e : Env} {s : State} {m : MethodId} {args : Array Value} {below : List Frame} {meth : Method} {c : Code} {Z : State} {a0 : Array Value} {h0 : Heap} (C : Cx1 Z a0 p s m meth c) :
    ∀ (T : State) (x0 : Int32) (o : Int32), f1_44 x0 = some o → Stand p l e rx1 s m args below meth c T [] 0 0 → T.heap = h0 →  OwnOut p e s below 0 0 (Q1 Z default h0 o) (T.setTop (mkF m 44 #[.val (.int x0)] [])) := by
    obtain ⟨hx, hZ, hw, hby, hml, hown, hret, hlk, hnm⟩ := C
    intro T x0 o hr X0 e0
    rw [f1_44] at hr
    refine OwnOut.go (fun t k => XS.iloadN X0.here hx rfl (hb hby d1_44) rfl k) ?_
    show OwnOut p e s below 0 0 _ (T.setTop (mkF m 45 #[.val (.int x0)] [(.int x0)]))
    refine OwnOut.go (fun t k => XT.sipushV X0.here hx rfl (216 : Int32) (hb hby d1_45) rfl k) ?_
    show OwnOut p e s below 0 0 _ (T.setTop (mkF m 48 #[.val (.int x0)] [(.int (216 : Int32)), (.int x0)]))
    by_cases hc48 : x0 < (216 : Int32)
    · rw [if_pos hc48] at hr
      refine OwnOut.go (fun t k => XS.icmpYes X0.here hx rfl (pc0 := 48) (pc' := 58) rfl (hb hby d1_48) rfl (XT.ii_lt_t hc48) (by decide) (by decide) k) ?_
      show OwnOut p e s below 0 0 _ (T.setTop (mkF m 58 #[.val (.int x0)] []))
      exact w1_58 ⟨hx, hZ, hw, hby, hml, hown, hret, hlk, hnm⟩  _ x0 _ hr X0 e0
    · rw [if_neg hc48] at hr
      refine OwnOut.go (fun t k => XS.icmpNo X0.here hx rfl (hb hby d1_48) rfl (XT.ii_lt_f hc48) k) ?_
      show OwnOut p e s below 0 0 _ (T.setTop (mkF m 51 #[.val (.int x0)] []))
      refine OwnOut.go (fun t k => XS.iloadN X0.here hx rfl (hb hby d1_51) rfl k) ?_
      show OwnOut p e s below 0 0 _ (T.setTop (mkF m 52 #[.val (.int x0)] [(.int x0)]))
      refine OwnOut.go (fun t k => XT.sipushV X0.here hx rfl (246 : Int32) (hb hby d1_52) rfl k) ?_
      show OwnOut p e s below 0 0 _ (T.setTop (mkF m 55 #[.val (.int x0)] [(.int (246 : Int32)), (.int x0)]))
      by_cases hc55 : (246 : Int32) < x0
      · rw [if_pos hc55] at hr
        refine OwnOut.go (fun t k => XS.icmpNo X0.here hx rfl (hb hby d1_55) rfl (XT.ii_le_f hc55) k) ?_
        show OwnOut p e s below 0 0 _ (T.setTop (mkF m 58 #[.val (.int x0)] []))
        exact w1_58 ⟨hx, hZ, hw, hby, hml, hown, hret, hlk, hnm⟩  _ x0 _ hr X0 e0
      · rw [if_neg hc55] at hr
        refine OwnOut.go (fun t k => XS.icmpYes X0.here hx rfl (pc0 := 55) (pc' := 191) rfl (hb hby d1_55) rfl (XT.ii_le_t hc55) (by decide) (by decide) k) ?_
        show OwnOut p e s below 0 0 _ (T.setTop (mkF m 191 #[.val (.int x0)] []))
        refine OwnOut.go (fun t k => XT.iconstV X0.here hx rfl (1 : Int32) (hb hby d1_191) rfl k) ?_
        show OwnOut p e s below 0 0 _ (T.setTop (mkF m 192 #[.val (.int x0)] [(.int (1 : Int32))]))
        refine OwnOut.go (fun t k => XS.goto X0.here hx rfl (pc0 := 192) (pc' := 196) rfl (hb hby d1_192) (by decide) (by decide) k) ?_
        show OwnOut p e s below 0 0 _ (T.setTop (mkF m 196 #[.val (.int x0)] [(.int (1 : Int32))]))
        cases hr
        exact outZ X0 hx hret (hb hby d1_196) hlk (by decide) (by decide) ⟨rfl, e0, rfl⟩
def f1_24 (x0 : Int32) : Option (Int32) := (if x0 = (95 : Int32) then some ((1 : Int32)) else (if x0 < (192 : Int32) then (f1_44 x0) else (if (214 : Int32) < x0 then (f1_44 x0) else some ((1 : Int32)))))
set_option maxRecDepth 65536 in
set_option maxHeartbeats 40000000 in
theorem w1_24 {p : Program} {l : Launch} {e : Env} {s : State} {m : MethodId} {args : Array Value} {below : List Frame} {meth : Method} {c : Code} {Z : State} {a0 : Array Value} {h0 : Heap} (C : Cx1 Z a0 p s m meth c) :
    ∀ (T : State) (x0 : Int32) (o : Int32), f1_24 x0 = some o → Stand p l e rx1 s m args below meth c T [] 0 0 → T.heap = h0 →  OwnOut p e s below 0 0 (Q1 Z default h0 o) (T.setTop (mkF m 24 #[.val (.int x0)] [])) := by
    obtain ⟨hx, hZ, hw, hby, hml, hown, hret, hlk, hnm⟩ := C
    intro T x0 o hr X0 e0
    rw [f1_24] at hr
    refine OwnOut.go (fun t k => XS.iloadN X0.here hx rfl (hb hby d1_24) rfl k) ?_
    show OwnOut p e s below 0 0 _ (T.setTop (mkF m 25 #[.val (.int x0)] [(.int x0)]))
    refine OwnOut.go (fun t k => XT.bipushV X0.here hx rfl (95 : Int32) (hb hby d1_25) rfl k) ?_
    show OwnOut p e s below 0 0 _ (T.setTop (mkF m 27 #[.val (.int x0)] [(.int (95 : Int32)), (.int x0)]))
    by_cases hc27 : x0 = (95 : Int32)
    · rw [if_pos hc27] at hr
      refine OwnOut.go (fun t k => XS.icmpYes X0.here hx rfl (pc0 := 27) (pc' := 191) rfl (hb hby d1_27) rfl (XT.ii_eq_t hc27) (by decide) (by decide) k) ?_
      show OwnOut p e s below 0 0 _ (T.setTop (mkF m 191 #[.val (.int x0)] []))
      refine OwnOut.go (fun t k => XT.iconstV X0.here hx rfl (1 : Int32) (hb hby d1_191) rfl k) ?_
      show OwnOut p e s below 0 0 _ (T.setTop (mkF m 192 #[.val (.int x0)] [(.int (1 : Int32))]))
      refine OwnOut.go (fun t k => XS.goto X0.here hx rfl (pc0 := 192) (pc' := 196) rfl (hb hby d1_192) (by decide) (by decide) k) ?_
      show OwnOut p e s below 0 0 _ (T.setTop (mkF m 196 #[.val (.int x0)] [(.int (1 : Int32))]))
      cases hr
      exact outZ X0 hx hret (hb hby d1_196) hlk (by decide) (by decide) ⟨rfl, e0, rfl⟩
    · rw [if_neg hc27] at hr
      refine OwnOut.go (fun t k => XS.icmpNo X0.here hx rfl (hb hby d1_27) rfl (XT.ii_eq_f hc27) k) ?_
      show OwnOut p e s below 0 0 _ (T.setTop (mkF m 30 #[.val (.int x0)] []))
      refine OwnOut.go (fun t k => XS.iloadN X0.here hx rfl (hb hby d1_30) rfl k) ?_
      show OwnOut p e s below 0 0 _ (T.setTop (mkF m 31 #[.val (.int x0)] [(.int x0)]))
      refine OwnOut.go (fun t k => XT.sipushV X0.here hx rfl (192 : Int32) (hb hby d1_31) rfl k) ?_
      show OwnOut p e s below 0 0 _ (T.setTop (mkF m 34 #[.val (.int x0)] [(.int (192 : Int32)), (.int x0)]))
      by_cases hc34 : x0 < (192 : Int32)
      · rw [if_pos hc34] at hr
        refine OwnOut.go (fun t k => XS.icmpYes X0.here hx rfl (pc0 := 34) (pc' := 44) rfl (hb hby d1_34) rfl (XT.ii_lt_t hc34) (by decide) (by decide) k) ?_
        show OwnOut p e s below 0 0 _ (T.setTop (mkF m 44 #[.val (.int x0)] []))
        exact w1_44 ⟨hx, hZ, hw, hby, hml, hown, hret, hlk, hnm⟩  _ x0 _ hr X0 e0
      · rw [if_neg hc34] at hr
        refine OwnOut.go (fun t k => XS.icmpNo X0.here hx rfl (hb hby d1_34) rfl (XT.ii_lt_f hc34) k) ?_
        show OwnOut p e s below 0 0 _ (T.setTop (mkF m 37 #[.val (.int x0)] []))
        refine OwnOut.go (fun t k => XS.iloadN X0.here hx rfl (hb hby d1_37) rfl k) ?_
        show OwnOut p e s below 0 0 _ (T.setTop (mkF m 38 #[.val (.int x0)] [(.int x0)]))
        refine OwnOut.go (fun t k => XT.sipushV X0.here hx rfl (214 : Int32) (hb hby d1_38) rfl k) ?_
        show OwnOut p e s below 0 0 _ (T.setTop (mkF m 41 #[.val (.int x0)] [(.int (214 : Int32)), (.int x0)]))
        by_cases hc41 : (214 : Int32) < x0
        · rw [if_pos hc41] at hr
          refine OwnOut.go (fun t k => XS.icmpNo X0.here hx rfl (hb hby d1_41) rfl (XT.ii_le_f hc41) k) ?_
          show OwnOut p e s below 0 0 _ (T.setTop (mkF m 44 #[.val (.int x0)] []))
          exact w1_44 ⟨hx, hZ, hw, hby, hml, hown, hret, hlk, hnm⟩  _ x0 _ hr X0 e0
        · rw [if_neg hc41] at hr
          refine OwnOut.go (fun t k => XS.icmpYes X0.here hx rfl (pc0 := 41) (pc' := 191) rfl (hb hby d1_41) rfl (XT.ii_le_t hc41) (by decide) (by decide) k) ?_
          show OwnOut p e s below 0 0 _ (T.setTop (mkF m 191 #[.val (.int x0)] []))
          refine OwnOut.go (fun t k => XT.iconstV X0.here hx rfl (1 : Int32) (hb hby d1_191) rfl k) ?_
          show OwnOut p e s below 0 0 _ (T.setTop (mkF m 192 #[.val (.int x0)] [(.int (1 : Int32))]))
          refine OwnOut.go (fun t k => XS.goto X0.here hx rfl (pc0 := 192) (pc' := 196) rfl (hb hby d1_192) (by decide) (by decide) k) ?_
          show OwnOut p e s below 0 0 _ (T.setTop (mkF m 196 #[.val (.int x0)] [(.int (1 : Int32))]))
          cases hr
          exact outZ X0 hx hret (hb hby d1_196) hlk (by decide) (by decide) ⟨rfl, e0, rfl⟩
def f1_12 (x0 : Int32) : Option (Int32) := (if x0 < (65 : Int32) then (f1_24 x0) else (if (90 : Int32) < x0 then (f1_24 x0) else some ((1 : Int32))))
set_option maxRecDepth 65536 in
set_option maxHeartbeats 40000000 in
theorem w1_12 {p : Program} {l : Launch} {e : Env} {s : State} {m : MethodId} {args : Array Value} {below : List Frame} {meth : Method} {c : Code} {Z : State} {a0 : Array Value} {h0 : Heap} (C : Cx1 Z a0 p s m meth c) :
    ∀ (T : State) (x0 : Int32) (o : Int32), f1_12 x0 = some o → Stand p l e rx1 s m args below meth c T [] 0 0 → T.heap = h0 →  OwnOut p e s below 0 0 (Q1 Z default h0 o) (T.setTop (mkF m 12 #[.val (.int x0)] [])) := by
    obtain ⟨hx, hZ, hw, hby, hml, hown, hret, hlk, hnm⟩ := C
    intro T x0 o hr X0 e0
    rw [f1_12] at hr
    refine OwnOut.go (fun t k => XS.iloadN X0.here hx rfl (hb hby d1_12) rfl k) ?_
    show OwnOut p e s below 0 0 _ (T.setTop (mkF m 13 #[.val (.int x0)] [(.int x0)]))
    refine OwnOut.go (fun t k => XT.bipushV X0.here hx rfl (65 : Int32) (hb hby d1_13) rfl k) ?_
    show OwnOut p e s below 0 0 _ (T.setTop (mkF m 15 #[.val (.int x0)] [(.int (65 : Int32)), (.int x0)]))
    by_cases hc15 : x0 < (65 : Int32)
    · rw [if_pos hc15] at hr
      refine OwnOut.go (fun t k => XS.icmpYes X0.here hx rfl (pc0 := 15) (pc' := 24) rfl (hb hby d1_15) rfl (XT.ii_lt_t hc15) (by decide) (by decide) k) ?_
      show OwnOut p e s below 0 0 _ (T.setTop (mkF m 24 #[.val (.int x0)] []))
      exact w1_24 ⟨hx, hZ, hw, hby, hml, hown, hret, hlk, hnm⟩  _ x0 _ hr X0 e0
    · rw [if_neg hc15] at hr
      refine OwnOut.go (fun t k => XS.icmpNo X0.here hx rfl (hb hby d1_15) rfl (XT.ii_lt_f hc15) k) ?_
      show OwnOut p e s below 0 0 _ (T.setTop (mkF m 18 #[.val (.int x0)] []))
      refine OwnOut.go (fun t k => XS.iloadN X0.here hx rfl (hb hby d1_18) rfl k) ?_
      show OwnOut p e s below 0 0 _ (T.setTop (mkF m 19 #[.val (.int x0)] [(.int x0)]))
      refine OwnOut.go (fun t k => XT.bipushV X0.here hx rfl (90 : Int32) (hb hby d1_19) rfl k) ?_
      show OwnOut p e s below 0 0 _ (T.setTop (mkF m 21 #[.val (.int x0)] [(.int (90 : Int32)), (.int x0)]))
      by_cases hc21 : (90 : Int32) < x0
      · rw [if_pos hc21] at hr
        refine OwnOut.go (fun t k => XS.icmpNo X0.here hx rfl (hb hby d1_21) rfl (XT.ii_le_f hc21) k) ?_
        show OwnOut p e s below 0 0 _ (T.setTop (mkF m 24 #[.val (.int x0)] []))
        exact w1_24 ⟨hx, hZ, hw, hby, hml, hown, hret, hlk, hnm⟩  _ x0 _ hr X0 e0
      · rw [if_neg hc21] at hr
        refine OwnOut.go (fun t k => XS.icmpYes X0.here hx rfl (pc0 := 21) (pc' := 191) rfl (hb hby d1_21) rfl (XT.ii_le_t hc21) (by decide) (by decide) k) ?_
        show OwnOut p e s below 0 0 _ (T.setTop (mkF m 191 #[.val (.int x0)] []))
        refine OwnOut.go (fun t k => XT.iconstV X0.here hx rfl (1 : Int32) (hb hby d1_191) rfl k) ?_
        show OwnOut p e s below 0 0 _ (T.setTop (mkF m 192 #[.val (.int x0)] [(.int (1 : Int32))]))
        refine OwnOut.go (fun t k => XS.goto X0.here hx rfl (pc0 := 192) (pc' := 196) rfl (hb hby d1_192) (by decide) (by decide) k) ?_
        show OwnOut p e s below 0 0 _ (T.setTop (mkF m 196 #[.val (.int x0)] [(.int (1 : Int32))]))
        cases hr
        exact outZ X0 hx hret (hb hby d1_196) hlk (by decide) (by decide) ⟨rfl, e0, rfl⟩
def f1 (x0 : Int32) : Option (Int32) := (if x0 < (97 : Int32) then (f1_12 x0) else (if (122 : Int32) < x0 then (f1_12 x0) else some ((1 : Int32))))
set_option maxRecDepth 65536 in
set_option maxHeartbeats 40000000 in
theorem w1_0 {p : Program} {l : Launch} {e : Env} {s : State} {m : MethodId} {args : Array Value} {below : List Frame} {meth : Method} {c : Code} {Z : State} {a0 : Array Value} {h0 : Heap} (C : Cx1 Z a0 p s m meth c) :
    ∀ (T : State) (x0 : Int32) (o : Int32), f1 x0 = some o → Stand p l e rx1 s m args below meth c T [] 0 0 → T.heap = h0 →  OwnOut p e s below 0 0 (Q1 Z default h0 o) (T.setTop (mkF m 0 #[.val (.int x0)] [])) := by
    obtain ⟨hx, hZ, hw, hby, hml, hown, hret, hlk, hnm⟩ := C
    intro T x0 o hr X0 e0
    rw [f1] at hr
    refine OwnOut.go (fun t k => XS.iloadN X0.here hx rfl (hb hby d1_0) rfl k) ?_
    show OwnOut p e s below 0 0 _ (T.setTop (mkF m 1 #[.val (.int x0)] [(.int x0)]))
    refine OwnOut.go (fun t k => XT.bipushV X0.here hx rfl (97 : Int32) (hb hby d1_1) rfl k) ?_
    show OwnOut p e s below 0 0 _ (T.setTop (mkF m 3 #[.val (.int x0)] [(.int (97 : Int32)), (.int x0)]))
    by_cases hc3 : x0 < (97 : Int32)
    · rw [if_pos hc3] at hr
      refine OwnOut.go (fun t k => XS.icmpYes X0.here hx rfl (pc0 := 3) (pc' := 12) rfl (hb hby d1_3) rfl (XT.ii_lt_t hc3) (by decide) (by decide) k) ?_
      show OwnOut p e s below 0 0 _ (T.setTop (mkF m 12 #[.val (.int x0)] []))
      exact w1_12 ⟨hx, hZ, hw, hby, hml, hown, hret, hlk, hnm⟩  _ x0 _ hr X0 e0
    · rw [if_neg hc3] at hr
      refine OwnOut.go (fun t k => XS.icmpNo X0.here hx rfl (hb hby d1_3) rfl (XT.ii_lt_f hc3) k) ?_
      show OwnOut p e s below 0 0 _ (T.setTop (mkF m 6 #[.val (.int x0)] []))
      refine OwnOut.go (fun t k => XS.iloadN X0.here hx rfl (hb hby d1_6) rfl k) ?_
      show OwnOut p e s below 0 0 _ (T.setTop (mkF m 7 #[.val (.int x0)] [(.int x0)]))
      refine OwnOut.go (fun t k => XT.bipushV X0.here hx rfl (122 : Int32) (hb hby d1_7) rfl k) ?_
      show OwnOut p e s below 0 0 _ (T.setTop (mkF m 9 #[.val (.int x0)] [(.int (122 : Int32)), (.int x0)]))
      by_cases hc9 : (122 : Int32) < x0
      · rw [if_pos hc9] at hr
        refine OwnOut.go (fun t k => XS.icmpNo X0.here hx rfl (hb hby d1_9) rfl (XT.ii_le_f hc9) k) ?_
        show OwnOut p e s below 0 0 _ (T.setTop (mkF m 12 #[.val (.int x0)] []))
        exact w1_12 ⟨hx, hZ, hw, hby, hml, hown, hret, hlk, hnm⟩  _ x0 _ hr X0 e0
      · rw [if_neg hc9] at hr
        refine OwnOut.go (fun t k => XS.icmpYes X0.here hx rfl (pc0 := 9) (pc' := 191) rfl (hb hby d1_9) rfl (XT.ii_le_t hc9) (by decide) (by decide) k) ?_
        show OwnOut p e s below 0 0 _ (T.setTop (mkF m 191 #[.val (.int x0)] []))
        refine OwnOut.go (fun t k => XT.iconstV X0.here hx rfl (1 : Int32) (hb hby d1_191) rfl k) ?_
        show OwnOut p e s below 0 0 _ (T.setTop (mkF m 192 #[.val (.int x0)] [(.int (1 : Int32))]))
        refine OwnOut.go (fun t k => XS.goto X0.here hx rfl (pc0 := 192) (pc' := 196) rfl (hb hby d1_192) (by decide) (by decide) k) ?_
        show OwnOut p e s below 0 0 _ (T.setTop (mkF m 196 #[.val (.int x0)] [(.int (1 : Int32))]))
        cases hr
        exact outZ X0 hx hret (hb hby d1_196) hlk (by decide) (by decide) ⟨rfl, e0, rfl⟩
set_option maxRecDepth 65536 in
set_option maxHeartbeats 40000000 in
theorem rm1 (l : Launch) (Z : State) (a0 : Array Value) (hw : ∀ d ∈ tables_1, d.before a0 Z = true) (ws : List Jvm.Cond) (x0 : Int32) (h0 : Heap) (o : Int32) (hr : f1 x0 = some o) :
    MetFree l (⟨"com/example/libnodeset/libnodeset/tree/XmlCharacters", "isNameStart", "(I)Z"⟩ : MethodName) (head1 (Jvm.Cond.code (⟨"com/example/libnodeset/libnodeset/tree/XmlCharacters", "isNameStart", "(I)Z"⟩ : MethodName) prog_200_method_7_code 1 (some .boolean) :: ws) rx1) (fun a U => a = #[(.int x0)] ∧ Z.Warmed39 U.vm ∧ U.heap = h0) (fun _ _ _ _ _ => True) (fun _ U o' U' => ∃ v L, o' = .returned v ∧ Q1 Z x0 h0 o v U'.heap L ∧ FrameEnd U o' U' L rx1.cells rx1.slots) := by
  refine MetFree.of_bodySF (plainFor_of_name pn1) hisR ?_
  intro p e s m args below meth c s₁ Bd hml0 hP hK
  obtain ⟨rfl, hZ, hh⟩ := hP
  have X0 : Stand p l e rx1 s m #[(.int x0)] below meth c s₁ [] 0 0 := Stand.of_body Bd
  have e0 : s₁.heap = h0 := by rw [← hh, Bd.state]; rfl
  exact OwnOut.at (ef1 m x0) (w1_0 ⟨Bd.exec, hZ, hw, Bd.bytes, hml0, findClass_of_methodNamed Bd.named, Bd.returns, Bd.notSynchronized, (name_of_methodNamed Bd.named Bd.method).1⟩ _ x0 o hr X0 e0  )
-- body 3 as 3: com/example/libnodeset/libnodeset/tree/XmlCharactersIsNameStartPinLaw.in:(III)Z (touches nothing)
theorem d3_0 : decode method_2_code 0 = .ok (.iload_n 0, 1) := by decide +kernel
theorem d3_1 : decode method_2_code 1 = .ok (.iload_n 1, 1) := by decide +kernel
theorem d3_2 : decode method_2_code 2 = .ok (.if_icmp .lt 12, 3) := by decide +kernel
theorem d3_5 : decode method_2_code 5 = .ok (.iload_n 0, 1) := by decide +kernel
theorem d3_6 : decode method_2_code 6 = .ok (.iload_n 2, 1) := by decide +kernel
theorem d3_7 : decode method_2_code 7 = .ok (.if_icmp .gt 7, 3) := by decide +kernel
theorem d3_10 : decode method_2_code 10 = .ok (.iconst 1, 1) := by decide +kernel
theorem d3_11 : decode method_2_code 11 = .ok (.goto 4, 3) := by decide +kernel
theorem d3_14 : decode method_2_code 14 = .ok (.iconst 0, 1) := by decide +kernel
theorem d3_15 : decode method_2_code 15 = .ok (.ireturn, 1) := by decide +kernel
theorem pn3 : plainName "com/example/libnodeset/libnodeset/tree/XmlCharactersIsNameStartPinLaw" = true := by first | (simp [plainName, overriddenIn]; done) | decide +kernel
theorem pd3 : parseMethodDescriptor "(III)Z" = some ⟨[.int, .int, .int], some .boolean⟩ := by decide +kernel
theorem ef3 (m : MethodId) (x0 : Int32) (x1 : Int32) (x2 : Int32) : entryFrame m #[(.int x0), (.int x1), (.int x2)] 3 = mkF m 0 #[.val (.int x0), .val (.int x1), .val (.int x2)] [] := by first | (simp [entryFrame, mkF, argsToLocals, Value.category]; done) | rfl
abbrev rx3 : Room := { frames := 0, cells := 0, slots := 0, locals := 0 }
abbrev Cx3 (Z : State) (a0 : Array Value) (p : Program) (s : State) (m : MethodId) (meth : Method) (c : Code) : Prop := p.tables.exec = Jvm.exec ∧ Z.Warmed39 s.vm ∧ (∀ d ∈ tables_1, d.before a0 Z = true) ∧ c.code = method_2_code ∧ c.maxLocals = 3 ∧ s.vm.findClass "com/example/libnodeset/libnodeset/tree/XmlCharactersIsNameStartPinLaw" = some m.cls ∧ meth.sig.returnType = (some .boolean) ∧ meth.locks = false ∧ meth.name = "in"
def Q3 (Z : State) (x0 : Int32) (x1 : Int32) (x2 : Int32) (h0 : Heap) (o : Int32) (v : Option Value) (h : Heap) (L : List Loc) : Prop := v = some (.int o) ∧ h = h0 ∧ L = []
def f3 (x0 : Int32) (x1 : Int32) (x2 : Int32) : Option (Int32) := (if x0 < x1 then some ((0 : Int32)) else (if x2 < x0 then some ((0 : Int32)) else some ((1 : Int32))))
set_option maxRecDepth 65536 in
set_option maxHeartbeats 40000000 in
theorem w3_0 {p : Program} {l : Launch} {e : Env} {s : State} {m : MethodId} {args : Array Value} {below : List Frame} {meth : Method} {c : Code} {Z : State} {a0 : Array Value} {h0 : Heap} (C : Cx3 Z a0 p s m meth c) :
    ∀ (T : State) (x0 : Int32) (x1 : Int32) (x2 : Int32) (o : Int32), f3 x0 x1 x2 = some o → Stand p l e rx3 s m args below meth c T [] 0 0 → T.heap = h0 →  OwnOut p e s below 0 0 (Q3 Z default default default h0 o) (T.setTop (mkF m 0 #[.val (.int x0), .val (.int x1), .val (.int x2)] [])) := by
    obtain ⟨hx, hZ, hw, hby, hml, hown, hret, hlk, hnm⟩ := C
    intro T x0 x1 x2 o hr X0 e0
    rw [f3] at hr
    refine OwnOut.go (fun t k => XS.iloadN X0.here hx rfl (hb hby d3_0) rfl k) ?_
    show OwnOut p e s below 0 0 _ (T.setTop (mkF m 1 #[.val (.int x0), .val (.int x1), .val (.int x2)] [(.int x0)]))
    refine OwnOut.go (fun t k => XS.iloadN X0.here hx rfl (hb hby d3_1) rfl k) ?_
    show OwnOut p e s below 0 0 _ (T.setTop (mkF m 2 #[.val (.int x0), .val (.int x1), .val (.int x2)] [(.int x1), (.int x0)]))
    by_cases hc2 : x0 < x1
    · rw [if_pos hc2] at hr
      refine OwnOut.go (fun t k => XS.icmpYes X0.here hx rfl (pc0 := 2) (pc' := 14) rfl (hb hby d3_2) rfl (XT.ii_lt_t hc2) (by decide) (by decide) k) ?_
      show OwnOut p e s below 0 0 _ (T.setTop (mkF m 14 #[.val (.int x0), .val (.int x1), .val (.int x2)] []))
      refine OwnOut.go (fun t k => XT.iconstV X0.here hx rfl (0 : Int32) (hb hby d3_14) rfl k) ?_
      show OwnOut p e s below 0 0 _ (T.setTop (mkF m 15 #[.val (.int x0), .val (.int x1), .val (.int x2)] [(.int (0 : Int32))]))
      cases hr
      exact outZ X0 hx hret (hb hby d3_15) hlk (by decide) (by decide) ⟨rfl, e0, rfl⟩
    · rw [if_neg hc2] at hr
      refine OwnOut.go (fun t k => XS.icmpNo X0.here hx rfl (hb hby d3_2) rfl (XT.ii_lt_f hc2) k) ?_
      show OwnOut p e s below 0 0 _ (T.setTop (mkF m 5 #[.val (.int x0), .val (.int x1), .val (.int x2)] []))
      refine OwnOut.go (fun t k => XS.iloadN X0.here hx rfl (hb hby d3_5) rfl k) ?_
      show OwnOut p e s below 0 0 _ (T.setTop (mkF m 6 #[.val (.int x0), .val (.int x1), .val (.int x2)] [(.int x0)]))
      refine OwnOut.go (fun t k => XS.iloadN X0.here hx rfl (hb hby d3_6) rfl k) ?_
      show OwnOut p e s below 0 0 _ (T.setTop (mkF m 7 #[.val (.int x0), .val (.int x1), .val (.int x2)] [(.int x2), (.int x0)]))
      by_cases hc7 : x2 < x0
      · rw [if_pos hc7] at hr
        refine OwnOut.go (fun t k => XS.icmpYes X0.here hx rfl (pc0 := 7) (pc' := 14) rfl (hb hby d3_7) rfl (XT.ii_gt_t hc7) (by decide) (by decide) k) ?_
        show OwnOut p e s below 0 0 _ (T.setTop (mkF m 14 #[.val (.int x0), .val (.int x1), .val (.int x2)] []))
        refine OwnOut.go (fun t k => XT.iconstV X0.here hx rfl (0 : Int32) (hb hby d3_14) rfl k) ?_
        show OwnOut p e s below 0 0 _ (T.setTop (mkF m 15 #[.val (.int x0), .val (.int x1), .val (.int x2)] [(.int (0 : Int32))]))
        cases hr
        exact outZ X0 hx hret (hb hby d3_15) hlk (by decide) (by decide) ⟨rfl, e0, rfl⟩
      · rw [if_neg hc7] at hr
        refine OwnOut.go (fun t k => XS.icmpNo X0.here hx rfl (hb hby d3_7) rfl (XT.ii_gt_f hc7) k) ?_
        show OwnOut p e s below 0 0 _ (T.setTop (mkF m 10 #[.val (.int x0), .val (.int x1), .val (.int x2)] []))
        refine OwnOut.go (fun t k => XT.iconstV X0.here hx rfl (1 : Int32) (hb hby d3_10) rfl k) ?_
        show OwnOut p e s below 0 0 _ (T.setTop (mkF m 11 #[.val (.int x0), .val (.int x1), .val (.int x2)] [(.int (1 : Int32))]))
        refine OwnOut.go (fun t k => XS.goto X0.here hx rfl (pc0 := 11) (pc' := 15) rfl (hb hby d3_11) (by decide) (by decide) k) ?_
        show OwnOut p e s below 0 0 _ (T.setTop (mkF m 15 #[.val (.int x0), .val (.int x1), .val (.int x2)] [(.int (1 : Int32))]))
        cases hr
        exact outZ X0 hx hret (hb hby d3_15) hlk (by decide) (by decide) ⟨rfl, e0, rfl⟩
set_option maxRecDepth 65536 in
set_option maxHeartbeats 40000000 in
theorem rm3 (l : Launch) (Z : State) (a0 : Array Value) (hw : ∀ d ∈ tables_1, d.before a0 Z = true) (ws : List Jvm.Cond) (x0 : Int32) (x1 : Int32) (x2 : Int32) (h0 : Heap) (o : Int32) (hr : f3 x0 x1 x2 = some o) :
    MetFree l (⟨"com/example/libnodeset/libnodeset/tree/XmlCharactersIsNameStartPinLaw", "in", "(III)Z"⟩ : MethodName) (head1 (Jvm.Cond.code (⟨"com/example/libnodeset/libnodeset/tree/XmlCharactersIsNameStartPinLaw", "in", "(III)Z"⟩ : MethodName) method_2_code 3 (some .boolean) :: ws) rx3) (fun a U => a = #[(.int x0), (.int x1), (.int x2)] ∧ Z.Warmed39 U.vm ∧ U.heap = h0) (fun _ _ _ _ _ => True) (fun _ U o' U' => ∃ v L, o' = .returned v ∧ Q3 Z x0 x1 x2 h0 o v U'.heap L ∧ FrameEnd U o' U' L rx3.cells rx3.slots) := by
  refine MetFree.of_bodySF (plainFor_of_name pn3) hisR ?_
  intro p e s m args below meth c s₁ Bd hml0 hP hK
  obtain ⟨rfl, hZ, hh⟩ := hP
  have X0 : Stand p l e rx3 s m #[(.int x0), (.int x1), (.int x2)] below meth c s₁ [] 0 0 := Stand.of_body Bd
  have e0 : s₁.heap = h0 := by rw [← hh, Bd.state]; rfl
  exact OwnOut.at (ef3 m x0 x1 x2) (w3_0 ⟨Bd.exec, hZ, hw, Bd.bytes, hml0, findClass_of_methodNamed Bd.named, Bd.returns, Bd.notSynchronized, (name_of_methodNamed Bd.named Bd.method).1⟩ _ x0 x1 x2 o hr X0 e0  )
-- body 2 as 2: com/example/libnodeset/libnodeset/tree/XmlCharactersIsNameStartPinLaw.ref:(I)Z (touches nothing)
theorem d2_0 : decode method_3_code 0 = .ok (.iload_n 0, 1) := by decide +kernel
theorem d2_1 : decode method_3_code 1 = .ok (.bipush 65, 2) := by decide +kernel
theorem d2_3 : decode method_3_code 3 = .ok (.if_icmp .lt 9, 3) := by decide +kernel
theorem d2_6 : decode method_3_code 6 = .ok (.iload_n 0, 1) := by decide +kernel
theorem d2_7 : decode method_3_code 7 = .ok (.ldc 7, 2) := by decide +kernel
theorem d2_9 : decode method_3_code 9 = .ok (.if_icmp .le 5, 3) := by decide +kernel
theorem d2_12 : decode method_3_code 12 = .ok (.iconst 0, 1) := by decide +kernel
theorem d2_13 : decode method_3_code 13 = .ok (.ireturn, 1) := by decide +kernel
theorem d2_14 : decode method_3_code 14 = .ok (.iload_n 0, 1) := by decide +kernel
theorem d2_15 : decode method_3_code 15 = .ok (.bipush 91, 2) := by decide +kernel
theorem d2_17 : decode method_3_code 17 = .ok (.bipush 94, 2) := by decide +kernel
theorem d2_19 : decode method_3_code 19 = .ok (.invokestatic 8, 3) := by decide +kernel
theorem d2_22 : decode method_3_code 22 = .ok (.ifCond .ne 35, 3) := by decide +kernel
theorem d2_25 : decode method_3_code 25 = .ok (.iload_n 0, 1) := by decide +kernel
theorem d2_26 : decode method_3_code 26 = .ok (.bipush 96, 2) := by decide +kernel
theorem d2_28 : decode method_3_code 28 = .ok (.if_icmp .eq 29, 3) := by decide +kernel
theorem d2_31 : decode method_3_code 31 = .ok (.iload_n 0, 1) := by decide +kernel
theorem d2_32 : decode method_3_code 32 = .ok (.bipush 123, 2) := by decide +kernel
theorem d2_34 : decode method_3_code 34 = .ok (.sipush 191, 3) := by decide +kernel
theorem d2_37 : decode method_3_code 37 = .ok (.invokestatic 8, 3) := by decide +kernel
theorem d2_40 : decode method_3_code 40 = .ok (.ifCond .ne 17, 3) := by decide +kernel
theorem d2_43 : decode method_3_code 43 = .ok (.iload_n 0, 1) := by decide +kernel
theorem d2_44 : decode method_3_code 44 = .ok (.sipush 215, 3) := by decide +kernel
theorem d2_47 : decode method_3_code 47 = .ok (.if_icmp .eq 10, 3) := by decide +kernel
theorem d2_50 : decode method_3_code 50 = .ok (.iload_n 0, 1) := by decide +kernel
theorem d2_51 : decode method_3_code 51 = .ok (.sipush 247, 3) := by decide +kernel
theorem d2_54 : decode method_3_code 54 = .ok (.if_icmp .ne 5, 3) := by decide +kernel
theorem d2_57 : decode method_3_code 57 = .ok (.iconst 0, 1) := by decide +kernel
theorem d2_58 : decode method_3_code 58 = .ok (.ireturn, 1) := by decide +kernel
theorem d2_59 : decode method_3_code 59 = .ok (.iload_n 0, 1) := by decide +kernel
theorem d2_60 : decode method_3_code 60 = .ok (.sipush 768, 3) := by decide +kernel
theorem d2_63 : decode method_3_code 63 = .ok (.sipush 879, 3) := by decide +kernel
theorem d2_66 : decode method_3_code 66 = .ok (.invokestatic 8, 3) := by decide +kernel
theorem d2_69 : decode method_3_code 69 = .ok (.ifCond .ne 10, 3) := by decide +kernel
theorem d2_72 : decode method_3_code 72 = .ok (.iload_n 0, 1) := by decide +kernel
theorem d2_73 : decode method_3_code 73 = .ok (.sipush 894, 3) := by decide +kernel
theorem d2_76 : decode method_3_code 76 = .ok (.if_icmp .ne 5, 3) := by decide +kernel
theorem d2_79 : decode method_3_code 79 = .ok (.iconst 0, 1) := by decide +kernel
theorem d2_80 : decode method_3_code 80 = .ok (.ireturn, 1) := by decide +kernel
theorem d2_81 : decode method_3_code 81 = .ok (.iload_n 0, 1) := by decide +kernel
theorem d2_82 : decode method_3_code 82 = .ok (.sipush 8192, 3) := by decide +kernel
theorem d2_85 : decode method_3_code 85 = .ok (.sipush 8203, 3) := by decide +kernel
theorem d2_88 : decode method_3_code 88 = .ok (.invokestatic 8, 3) := by decide +kernel
theorem d2_91 : decode method_3_code 91 = .ok (.ifCond .ne 42, 3) := by decide +kernel
theorem d2_94 : decode method_3_code 94 = .ok (.iload_n 0, 1) := by decide +kernel
theorem d2_95 : decode method_3_code 95 = .ok (.sipush 8206, 3) := by decide +kernel
theorem d2_98 : decode method_3_code 98 = .ok (.sipush 8303, 3) := by decide +kernel
theorem d2_101 : decode method_3_code 101 = .ok (.invokestatic 8, 3) := by decide +kernel
theorem d2_104 : decode method_3_code 104 = .ok (.ifCond .ne 29, 3) := by decide +kernel
theorem d2_107 : decode method_3_code 107 = .ok (.iload_n 0, 1) := by decide +kernel
theorem d2_108 : decode method_3_code 108 = .ok (.sipush 8592, 3) := by decide +kernel
theorem d2_111 : decode method_3_code 111 = .ok (.sipush 11263, 3) := by decide +kernel
theorem d2_114 : decode method_3_code 114 = .ok (.invokestatic 8, 3) := by decide +kernel
theorem d2_117 : decode method_3_code 117 = .ok (.ifCond .ne 16, 3) := by decide +kernel
theorem d2_120 : decode method_3_code 120 = .ok (.iload_n 0, 1) := by decide +kernel
theorem d2_121 : decode method_3_code 121 = .ok (.sipush 12272, 3) := by decide +kernel
theorem d2_124 : decode method_3_code 124 = .ok (.sipush 12288, 3) := by decide +kernel
theorem d2_127 : decode method_3_code 127 = .ok (.invokestatic 8, 3) := by decide +kernel
theorem d2_130 : decode method_3_code 130 = .ok (.ifCond .eq 5, 3) := by decide +kernel
theorem d2_133 : decode method_3_code 133 = .ok (.iconst 0, 1) := by decide +kernel
theorem d2_134 : decode method_3_code 134 = .ok (.ireturn, 1) := by decide +kernel
theorem d2_135 : decode method_3_code 135 = .ok (.iload_n 0, 1) := by decide +kernel
theorem d2_136 : decode method_3_code 136 = .ok (.ldc 14, 2) := by decide +kernel
theorem d2_138 : decode method_3_code 138 = .ok (.ldc 15, 2) := by decide +kernel
theorem d2_140 : decode method_3_code 140 = .ok (.invokestatic 8, 3) := by decide +kernel
theorem d2_143 : decode method_3_code 143 = .ok (.ifCond .ne 25, 3) := by decide +kernel
theorem d2_146 : decode method_3_code 146 = .ok (.iload_n 0, 1) := by decide +kernel
theorem d2_147 : decode method_3_code 147 = .ok (.ldc 16, 2) := by decide +kernel
theorem d2_149 : decode method_3_code 149 = .ok (.ldc 17, 2) := by decide +kernel
theorem d2_151 : decode method_3_code 151 = .ok (.invokestatic 8, 3) := by decide +kernel
theorem d2_154 : decode method_3_code 154 = .ok (.ifCond .ne 14, 3) := by decide +kernel
theorem d2_157 : decode method_3_code 157 = .ok (.iload_n 0, 1) := by decide +kernel
theorem d2_158 : decode method_3_code 158 = .ok (.ldc 18, 2) := by decide +kernel
theorem d2_160 : decode method_3_code 160 = .ok (.ldc 19, 2) := by decide +kernel
theorem d2_162 : decode method_3_code 162 = .ok (.invokestatic 8, 3) := by decide +kernel
theorem d2_165 : decode method_3_code 165 = .ok (.ifCond .eq 5, 3) := by decide +kernel
theorem d2_168 : decode method_3_code 168 = .ok (.iconst 0, 1) := by decide +kernel
theorem d2_169 : decode method_3_code 169 = .ok (.ireturn, 1) := by decide +kernel
theorem d2_170 : decode method_3_code 170 = .ok (.iconst 1, 1) := by decide +kernel
theorem d2_171 : decode method_3_code 171 = .ok (.ireturn, 1) := by decide +kernel
theorem pn2 : plainName "com/example/libnodeset/libnodeset/tree/XmlCharactersIsNameStartPinLaw" = true := by first | (simp [plainName, overriddenIn]; done) | decide +kernel
theorem pd2 : parseMethodDescriptor "(I)Z" = some ⟨[.int], some .boolean⟩ := by decide +kernel
theorem ef2 (m : MethodId) (x0 : Int32) : entryFrame m #[(.int x0)] 1 = mkF m 0 #[.val (.int x0)] [] := by first | (simp [entryFrame, mkF, argsToLocals, Value.category]; done) | rfl
abbrev rx2 : Room := { frames := 1, cells := 0, slots := 0, locals := 14 }
abbrev Cx2 (Z : State) (a0 : Array Value) (p : Program) (s : State) (m : MethodId) (meth : Method) (c : Code) : Prop := p.tables.exec = Jvm.exec ∧ Z.Warmed39 s.vm ∧ (∀ d ∈ tables_1, d.before a0 Z = true) ∧ c.code = method_3_code ∧ c.maxLocals = 1 ∧ s.vm.findClass "com/example/libnodeset/libnodeset/tree/XmlCharactersIsNameStartPinLaw" = some m.cls ∧ meth.sig.returnType = (some .boolean) ∧ meth.locks = false ∧ meth.name = "ref"
def Q2 (Z : State) (x0 : Int32) (h0 : Heap) (o : Int32) (v : Option Value) (h : Heap) (L : List Loc) : Prop := v = some (.int o) ∧ h = h0 ∧ L = []
def f2 (x0 : Int32) : Option (Int32) := (if x0 < (65 : Int32) then some ((0 : Int32)) else (if (983039 : Int32) < x0 then some ((0 : Int32)) else ((f3 x0 (91 : Int32) (94 : Int32)).bind fun o1 => (if o1 = (0 : Int32) then (if x0 = (96 : Int32) then some ((0 : Int32)) else ((f3 x0 (123 : Int32) (191 : Int32)).bind fun o2 => (if o2 = (0 : Int32) then (if x0 = (215 : Int32) then some ((0 : Int32)) else (if x0 = (247 : Int32) then some ((0 : Int32)) else ((f3 x0 (768 : Int32) (879 : Int32)).bind fun o3 => (if o3 = (0 : Int32) then (if x0 = (894 : Int32) then some ((0 : Int32)) else ((f3 x0 (8192 : Int32) (8203 : Int32)).bind fun o4 => (if o4 = (0 : Int32) then ((f3 x0 (8206 : Int32) (8303 : Int32)).bind fun o5 => (if o5 = (0 : Int32) then ((f3 x0 (8592 : Int32) (11263 : Int32)).bind fun o6 => (if o6 = (0 : Int32) then ((f3 x0 (12272 : Int32) (12288 : Int32)).bind fun o7 => (if o7 = (0 : Int32) then ((f3 x0 (55296 : Int32) (63743 : Int32)).bind fun o8 => (if o8 = (0 : Int32) then ((f3 x0 (64976 : Int32) (65007 : Int32)).bind fun o9 => (if o9 = (0 : Int32) then ((f3 x0 (65534 : Int32) (65535 : Int32)).bind fun o10 => (if o10 = (0 : Int32) then some ((1 : Int32)) else some ((0 : Int32)))) else some ((0 : Int32)))) else some ((0 : Int32)))) else some ((0 : Int32)))) else some ((0 : Int32)))) else some ((0 : Int32)))) else some ((0 : Int32))))) else some ((0 : Int32)))))) else some ((0 : Int32))))) else some ((0 : Int32))))))
set_option maxRecDepth 65536 in
set_option maxHeartbeats 40000000 in
theorem w2_0 {p : Program} {l : Launch} {e : Env} {s : State} {m : MethodId} {args : Array Value} {below : List Frame} {meth : Method} {c : Code} {Z : State} {a0 : Array Value} {h0 : Heap} (C : Cx2 Z a0 p s m meth c) :
    ∀ (T : State) (x0 : Int32) (o : Int32), f2 x0 = some o → Stand p l e rx2 s m args below meth c T [] 0 0 → T.heap = h0 →  OwnOut p e s below 0 0 (Q2 Z default h0 o) (T.setTop (mkF m 0 #[.val (.int x0)] [])) := by
    obtain ⟨hx, hZ, hw, hby, hml, hown, hret, hlk, hnm⟩ := C
    intro T x0 o hr X0 e0
    rw [f2] at hr
    refine OwnOut.go (fun t k => XS.iloadN X0.here hx rfl (hb hby d2_0) rfl k) ?_
    show OwnOut p e s below 0 0 _ (T.setTop (mkF m 1 #[.val (.int x0)] [(.int x0)]))
    refine OwnOut.go (fun t k => XT.bipushV X0.here hx rfl (65 : Int32) (hb hby d2_1) rfl k) ?_
    show OwnOut p e s below 0 0 _ (T.setTop (mkF m 3 #[.val (.int x0)] [(.int (65 : Int32)), (.int x0)]))
    by_cases hc3 : x0 < (65 : Int32)
    · rw [if_pos hc3] at hr
      refine OwnOut.go (fun t k => XS.icmpYes X0.here hx rfl (pc0 := 3) (pc' := 12) rfl (hb hby d2_3) rfl (XT.ii_lt_t hc3) (by decide) (by decide) k) ?_
      show OwnOut p e s below 0 0 _ (T.setTop (mkF m 12 #[.val (.int x0)] []))
      refine OwnOut.go (fun t k => XT.iconstV X0.here hx rfl (0 : Int32) (hb hby d2_12) rfl k) ?_
      show OwnOut p e s below 0 0 _ (T.setTop (mkF m 13 #[.val (.int x0)] [(.int (0 : Int32))]))
      cases hr
      exact outZ X0 hx hret (hb hby d2_13) hlk (by decide) (by decide) ⟨rfl, e0, rfl⟩
    · rw [if_neg hc3] at hr
      refine OwnOut.go (fun t k => XS.icmpNo X0.here hx rfl (hb hby d2_3) rfl (XT.ii_lt_f hc3) k) ?_
      show OwnOut p e s below 0 0 _ (T.setTop (mkF m 6 #[.val (.int x0)] []))
      refine OwnOut.go (fun t k => XS.iloadN X0.here hx rfl (hb hby d2_6) rfl k) ?_
      show OwnOut p e s below 0 0 _ (T.setTop (mkF m 7 #[.val (.int x0)] [(.int x0)]))
      refine OwnOut.go (fun t k => X0.ldcInt hx hown (mvT hZ (hw _ (List.mem_of_getElem? (i := 7) rfl))) (g := (mkF m 7 #[.val (.int x0)] [(.int x0)])) rfl (hb hby d2_7) _ k) ?_
      show OwnOut p e s below 0 0 _ (T.setTop (mkF m 9 #[.val (.int x0)] [(.int (983039 : Int32)), (.int x0)]))
      by_cases hc9 : (983039 : Int32) < x0
      · rw [if_pos hc9] at hr
        refine OwnOut.go (fun t k => XS.icmpNo X0.here hx rfl (hb hby d2_9) rfl (XT.ii_le_f hc9) k) ?_
        show OwnOut p e s below 0 0 _ (T.setTop (mkF m 12 #[.val (.int x0)] []))
        refine OwnOut.go (fun t k => XT.iconstV X0.here hx rfl (0 : Int32) (hb hby d2_12) rfl k) ?_
        show OwnOut p e s below 0 0 _ (T.setTop (mkF m 13 #[.val (.int x0)] [(.int (0 : Int32))]))
        cases hr
        exact outZ X0 hx hret (hb hby d2_13) hlk (by decide) (by decide) ⟨rfl, e0, rfl⟩
      · rw [if_neg hc9] at hr
        refine OwnOut.go (fun t k => XS.icmpYes X0.here hx rfl (pc0 := 9) (pc' := 14) rfl (hb hby d2_9) rfl (XT.ii_le_t hc9) (by decide) (by decide) k) ?_
        show OwnOut p e s below 0 0 _ (T.setTop (mkF m 14 #[.val (.int x0)] []))
        refine OwnOut.go (fun t k => XS.iloadN X0.here hx rfl (hb hby d2_14) rfl k) ?_
        show OwnOut p e s below 0 0 _ (T.setTop (mkF m 15 #[.val (.int x0)] [(.int x0)]))
        refine OwnOut.go (fun t k => XT.bipushV X0.here hx rfl (91 : Int32) (hb hby d2_15) rfl k) ?_
        show OwnOut p e s below 0 0 _ (T.setTop (mkF m 17 #[.val (.int x0)] [(.int (91 : Int32)), (.int x0)]))
        refine OwnOut.go (fun t k => XT.bipushV X0.here hx rfl (94 : Int32) (hb hby d2_17) rfl k) ?_
        show OwnOut p e s below 0 0 _ (T.setTop (mkF m 19 #[.val (.int x0)] [(.int (94 : Int32)), (.int (91 : Int32)), (.int x0)]))
        obtain ⟨o1, ho1, hr⟩ := Option.bind_eq_some_iff.mp hr
        obtain ⟨r1, T1, L1, X1', hQ1, st1⟩ := callQ (W := 0) (rm := rx3) X0 hx hZ (y := (⟨"com/example/libnodeset/libnodeset/tree/XmlCharactersIsNameStartPinLaw", "in", "(III)Z"⟩ : MethodName)) hown (hw _ (List.mem_of_getElem? (i := 20) rfl)) (hw _ (List.mem_of_getElem? (i := 21) rfl)) (hw _ (List.mem_of_getElem? (i := 18) rfl)) (hw _ (List.mem_of_getElem? (i := 22) rfl)) (by decide) (rm3 l Z a0 hw [] x0 (91 : Int32) (94 : Int32) h0 o1 ho1 ) (by decide) (by decide) (by decide) (by decide) e0 (g := (mkF m 19 #[.val (.int x0)] [(.int (94 : Int32)), (.int (91 : Int32)), (.int x0)])) rfl (by rw [hml]; rfl) (argsL := [(.int x0), (.int (91 : Int32)), (.int (94 : Int32))]) (rest := []) (lenOf pd3 rfl) rfl (by show 2 * 0 + _ ≤ _; exact Nat.le_of_eq rfl) (hb hby d2_19)
        obtain ⟨rfl, e1, rfl⟩ := hQ1
        rw [List.append_nil] at X1'
        have X1 : Stand p l e rx2 s m args below meth c T1 _ 0 0 := X1'
        refine OwnOut.go (fun t k => st1 _ k) ?_
        show OwnOut p e s below 0 0 _ (T1.setTop (mkF m 22 #[.val (.int x0)] [(.int o1)]))
        by_cases hc22 : o1 = (0 : Int32)
        · rw [if_pos hc22] at hr
          refine OwnOut.go (fun t k => XS.ifNo X1.here hx rfl (hb hby d2_22) rfl (XT.i0_ne_f hc22) k) ?_
          show OwnOut p e s below 0 0 _ (T1.setTop (mkF m 25 #[.val (.int x0)] []))
          refine OwnOut.go (fun t k => XS.iloadN X1.here hx rfl (hb hby d2_25) rfl k) ?_
          show OwnOut p e s below 0 0 _ (T1.setTop (mkF m 26 #[.val (.int x0)] [(.int x0)]))
          refine OwnOut.go (fun t k => XT.bipushV X1.here hx rfl (96 : Int32) (hb hby d2_26) rfl k) ?_
          show OwnOut p e s below 0 0 _ (T1.setTop (mkF m 28 #[.val (.int x0)] [(.int (96 : Int32)), (.int x0)]))
          by_cases hc28 : x0 = (96 : Int32)
          · rw [if_pos hc28] at hr
            refine OwnOut.go (fun t k => XS.icmpYes X1.here hx rfl (pc0 := 28) (pc' := 57) rfl (hb hby d2_28) rfl (XT.ii_eq_t hc28) (by decide) (by decide) k) ?_
            show OwnOut p e s below 0 0 _ (T1.setTop (mkF m 57 #[.val (.int x0)] []))
            refine OwnOut.go (fun t k => XT.iconstV X1.here hx rfl (0 : Int32) (hb hby d2_57) rfl k) ?_
            show OwnOut p e s below 0 0 _ (T1.setTop (mkF m 58 #[.val (.int x0)] [(.int (0 : Int32))]))
            cases hr
            exact outZ X1 hx hret (hb hby d2_58) hlk (by decide) (by decide) ⟨rfl, e1, rfl⟩
          · rw [if_neg hc28] at hr
            refine OwnOut.go (fun t k => XS.icmpNo X1.here hx rfl (hb hby d2_28) rfl (XT.ii_eq_f hc28) k) ?_
            show OwnOut p e s below 0 0 _ (T1.setTop (mkF m 31 #[.val (.int x0)] []))
            refine OwnOut.go (fun t k => XS.iloadN X1.here hx rfl (hb hby d2_31) rfl k) ?_
            show OwnOut p e s below 0 0 _ (T1.setTop (mkF m 32 #[.val (.int x0)] [(.int x0)]))
            refine OwnOut.go (fun t k => XT.bipushV X1.here hx rfl (123 : Int32) (hb hby d2_32) rfl k) ?_
            show OwnOut p e s below 0 0 _ (T1.setTop (mkF m 34 #[.val (.int x0)] [(.int (123 : Int32)), (.int x0)]))
            refine OwnOut.go (fun t k => XT.sipushV X1.here hx rfl (191 : Int32) (hb hby d2_34) rfl k) ?_
            show OwnOut p e s below 0 0 _ (T1.setTop (mkF m 37 #[.val (.int x0)] [(.int (191 : Int32)), (.int (123 : Int32)), (.int x0)]))
            obtain ⟨o2, ho2, hr⟩ := Option.bind_eq_some_iff.mp hr
            obtain ⟨r2, T2, L2, X2', hQ2, st2⟩ := callQ (W := 0) (rm := rx3) X1 hx hZ (y := (⟨"com/example/libnodeset/libnodeset/tree/XmlCharactersIsNameStartPinLaw", "in", "(III)Z"⟩ : MethodName)) hown (hw _ (List.mem_of_getElem? (i := 20) rfl)) (hw _ (List.mem_of_getElem? (i := 21) rfl)) (hw _ (List.mem_of_getElem? (i := 18) rfl)) (hw _ (List.mem_of_getElem? (i := 22) rfl)) (by decide) (rm3 l Z a0 hw [] x0 (123 : Int32) (191 : Int32) h0 o2 ho2 ) (by decide) (by decide) (by decide) (by decide) e1 (g := (mkF m 37 #[.val (.int x0)] [(.int (191 : Int32)), (.int (123 : Int32)), (.int x0)])) rfl (by rw [hml]; rfl) (argsL := [(.int x0), (.int (123 : Int32)), (.int (191 : Int32))]) (rest := []) (lenOf pd3 rfl) rfl (by show 2 * 0 + _ ≤ _; exact Nat.le_of_eq rfl) (hb hby d2_37)
            obtain ⟨rfl, e2, rfl⟩ := hQ2
            rw [List.append_nil] at X2'
            have X2 : Stand p l e rx2 s m args below meth c T2 _ 0 0 := X2'
            refine OwnOut.go (fun t k => st2 _ k) ?_
            show OwnOut p e s below 0 0 _ (T2.setTop (mkF m 40 #[.val (.int x0)] [(.int o2)]))
            by_cases hc40 : o2 = (0 : Int32)
            · rw [if_pos hc40] at hr
              refine OwnOut.go (fun t k => XS.ifNo X2.here hx rfl (hb hby d2_40) rfl (XT.i0_ne_f hc40) k) ?_
              show OwnOut p e s below 0 0 _ (T2.setTop (mkF m 43 #[.val (.int x0)] []))
              refine OwnOut.go (fun t k => XS.iloadN X2.here hx rfl (hb hby d2_43) rfl k) ?_
              show OwnOut p e s below 0 0 _ (T2.setTop (mkF m 44 #[.val (.int x0)] [(.int x0)]))
              refine OwnOut.go (fun t k => XT.sipushV X2.here hx rfl (215 : Int32) (hb hby d2_44) rfl k) ?_
              show OwnOut p e s below 0 0 _ (T2.setTop (mkF m 47 #[.val (.int x0)] [(.int (215 : Int32)), (.int x0)]))
              by_cases hc47 : x0 = (215 : Int32)
              · rw [if_pos hc47] at hr
                refine OwnOut.go (fun t k => XS.icmpYes X2.here hx rfl (pc0 := 47) (pc' := 57) rfl (hb hby d2_47) rfl (XT.ii_eq_t hc47) (by decide) (by decide) k) ?_
                show OwnOut p e s below 0 0 _ (T2.setTop (mkF m 57 #[.val (.int x0)] []))
                refine OwnOut.go (fun t k => XT.iconstV X2.here hx rfl (0 : Int32) (hb hby d2_57) rfl k) ?_
                show OwnOut p e s below 0 0 _ (T2.setTop (mkF m 58 #[.val (.int x0)] [(.int (0 : Int32))]))
                cases hr
                exact outZ X2 hx hret (hb hby d2_58) hlk (by decide) (by decide) ⟨rfl, e2, rfl⟩
              · rw [if_neg hc47] at hr
                refine OwnOut.go (fun t k => XS.icmpNo X2.here hx rfl (hb hby d2_47) rfl (XT.ii_eq_f hc47) k) ?_
                show OwnOut p e s below 0 0 _ (T2.setTop (mkF m 50 #[.val (.int x0)] []))
                refine OwnOut.go (fun t k => XS.iloadN X2.here hx rfl (hb hby d2_50) rfl k) ?_
                show OwnOut p e s below 0 0 _ (T2.setTop (mkF m 51 #[.val (.int x0)] [(.int x0)]))
                refine OwnOut.go (fun t k => XT.sipushV X2.here hx rfl (247 : Int32) (hb hby d2_51) rfl k) ?_
                show OwnOut p e s below 0 0 _ (T2.setTop (mkF m 54 #[.val (.int x0)] [(.int (247 : Int32)), (.int x0)]))
                by_cases hc54 : x0 = (247 : Int32)
                · rw [if_pos hc54] at hr
                  refine OwnOut.go (fun t k => XS.icmpNo X2.here hx rfl (hb hby d2_54) rfl (XT.ii_ne_f hc54) k) ?_
                  show OwnOut p e s below 0 0 _ (T2.setTop (mkF m 57 #[.val (.int x0)] []))
                  refine OwnOut.go (fun t k => XT.iconstV X2.here hx rfl (0 : Int32) (hb hby d2_57) rfl k) ?_
                  show OwnOut p e s below 0 0 _ (T2.setTop (mkF m 58 #[.val (.int x0)] [(.int (0 : Int32))]))
                  cases hr
                  exact outZ X2 hx hret (hb hby d2_58) hlk (by decide) (by decide) ⟨rfl, e2, rfl⟩
                · rw [if_neg hc54] at hr
                  refine OwnOut.go (fun t k => XS.icmpYes X2.here hx rfl (pc0 := 54) (pc' := 59) rfl (hb hby d2_54) rfl (XT.ii_ne_t hc54) (by decide) (by decide) k) ?_
                  show OwnOut p e s below 0 0 _ (T2.setTop (mkF m 59 #[.val (.int x0)] []))
                  refine OwnOut.go (fun t k => XS.iloadN X2.here hx rfl (hb hby d2_59) rfl k) ?_
                  show OwnOut p e s below 0 0 _ (T2.setTop (mkF m 60 #[.val (.int x0)] [(.int x0)]))
                  refine OwnOut.go (fun t k => XT.sipushV X2.here hx rfl (768 : Int32) (hb hby d2_60) rfl k) ?_
                  show OwnOut p e s below 0 0 _ (T2.setTop (mkF m 63 #[.val (.int x0)] [(.int (768 : Int32)), (.int x0)]))
                  refine OwnOut.go (fun t k => XT.sipushV X2.here hx rfl (879 : Int32) (hb hby d2_63) rfl k) ?_
                  show OwnOut p e s below 0 0 _ (T2.setTop (mkF m 66 #[.val (.int x0)] [(.int (879 : Int32)), (.int (768 : Int32)), (.int x0)]))
                  obtain ⟨o3, ho3, hr⟩ := Option.bind_eq_some_iff.mp hr
                  obtain ⟨r3, T3, L3, X3', hQ3, st3⟩ := callQ (W := 0) (rm := rx3) X2 hx hZ (y := (⟨"com/example/libnodeset/libnodeset/tree/XmlCharactersIsNameStartPinLaw", "in", "(III)Z"⟩ : MethodName)) hown (hw _ (List.mem_of_getElem? (i := 20) rfl)) (hw _ (List.mem_of_getElem? (i := 21) rfl)) (hw _ (List.mem_of_getElem? (i := 18) rfl)) (hw _ (List.mem_of_getElem? (i := 22) rfl)) (by decide) (rm3 l Z a0 hw [] x0 (768 : Int32) (879 : Int32) h0 o3 ho3 ) (by decide) (by decide) (by decide) (by decide) e2 (g := (mkF m 66 #[.val (.int x0)] [(.int (879 : Int32)), (.int (768 : Int32)), (.int x0)])) rfl (by rw [hml]; rfl) (argsL := [(.int x0), (.int (768 : Int32)), (.int (879 : Int32))]) (rest := []) (lenOf pd3 rfl) rfl (by show 2 * 0 + _ ≤ _; exact Nat.le_of_eq rfl) (hb hby d2_66)
                  obtain ⟨rfl, e3, rfl⟩ := hQ3
                  rw [List.append_nil] at X3'
                  have X3 : Stand p l e rx2 s m args below meth c T3 _ 0 0 := X3'
                  refine OwnOut.go (fun t k => st3 _ k) ?_
                  show OwnOut p e s below 0 0 _ (T3.setTop (mkF m 69 #[.val (.int x0)] [(.int o3)]))
                  by_cases hc69 : o3 = (0 : Int32)
                  · rw [if_pos hc69] at hr
                    refine OwnOut.go (fun t k => XS.ifNo X3.here hx rfl (hb hby d2_69) rfl (XT.i0_ne_f hc69) k) ?_
                    show OwnOut p e s below 0 0 _ (T3.setTop (mkF m 72 #[.val (.int x0)] []))
                    refine OwnOut.go (fun t k => XS.iloadN X3.here hx rfl (hb hby d2_72) rfl k) ?_
                    show OwnOut p e s below 0 0 _ (T3.setTop (mkF m 73 #[.val (.int x0)] [(.int x0)]))
                    refine OwnOut.go (fun t k => XT.sipushV X3.here hx rfl (894 : Int32) (hb hby d2_73) rfl k) ?_
                    show OwnOut p e s below 0 0 _ (T3.setTop (mkF m 76 #[.val (.int x0)] [(.int (894 : Int32)), (.int x0)]))
                    by_cases hc76 : x0 = (894 : Int32)
                    · rw [if_pos hc76] at hr
                      refine OwnOut.go (fun t k => XS.icmpNo X3.here hx rfl (hb hby d2_76) rfl (XT.ii_ne_f hc76) k) ?_
                      show OwnOut p e s below 0 0 _ (T3.setTop (mkF m 79 #[.val (.int x0)] []))
                      refine OwnOut.go (fun t k => XT.iconstV X3.here hx rfl (0 : Int32) (hb hby d2_79) rfl k) ?_
                      show OwnOut p e s below 0 0 _ (T3.setTop (mkF m 80 #[.val (.int x0)] [(.int (0 : Int32))]))
                      cases hr
                      exact outZ X3 hx hret (hb hby d2_80) hlk (by decide) (by decide) ⟨rfl, e3, rfl⟩
                    · rw [if_neg hc76] at hr
                      refine OwnOut.go (fun t k => XS.icmpYes X3.here hx rfl (pc0 := 76) (pc' := 81) rfl (hb hby d2_76) rfl (XT.ii_ne_t hc76) (by decide) (by decide) k) ?_
                      show OwnOut p e s below 0 0 _ (T3.setTop (mkF m 81 #[.val (.int x0)] []))
                      refine OwnOut.go (fun t k => XS.iloadN X3.here hx rfl (hb hby d2_81) rfl k) ?_
                      show OwnOut p e s below 0 0 _ (T3.setTop (mkF m 82 #[.val (.int x0)] [(.int x0)]))
                      refine OwnOut.go (fun t k => XT.sipushV X3.here hx rfl (8192 : Int32) (hb hby d2_82) rfl k) ?_
                      show OwnOut p e s below 0 0 _ (T3.setTop (mkF m 85 #[.val (.int x0)] [(.int (8192 : Int32)), (.int x0)]))
                      refine OwnOut.go (fun t k => XT.sipushV X3.here hx rfl (8203 : Int32) (hb hby d2_85) rfl k) ?_
                      show OwnOut p e s below 0 0 _ (T3.setTop (mkF m 88 #[.val (.int x0)] [(.int (8203 : Int32)), (.int (8192 : Int32)), (.int x0)]))
                      obtain ⟨o4, ho4, hr⟩ := Option.bind_eq_some_iff.mp hr
                      obtain ⟨r4, T4, L4, X4', hQ4, st4⟩ := callQ (W := 0) (rm := rx3) X3 hx hZ (y := (⟨"com/example/libnodeset/libnodeset/tree/XmlCharactersIsNameStartPinLaw", "in", "(III)Z"⟩ : MethodName)) hown (hw _ (List.mem_of_getElem? (i := 20) rfl)) (hw _ (List.mem_of_getElem? (i := 21) rfl)) (hw _ (List.mem_of_getElem? (i := 18) rfl)) (hw _ (List.mem_of_getElem? (i := 22) rfl)) (by decide) (rm3 l Z a0 hw [] x0 (8192 : Int32) (8203 : Int32) h0 o4 ho4 ) (by decide) (by decide) (by decide) (by decide) e3 (g := (mkF m 88 #[.val (.int x0)] [(.int (8203 : Int32)), (.int (8192 : Int32)), (.int x0)])) rfl (by rw [hml]; rfl) (argsL := [(.int x0), (.int (8192 : Int32)), (.int (8203 : Int32))]) (rest := []) (lenOf pd3 rfl) rfl (by show 2 * 0 + _ ≤ _; exact Nat.le_of_eq rfl) (hb hby d2_88)
                      obtain ⟨rfl, e4, rfl⟩ := hQ4
                      rw [List.append_nil] at X4'
                      have X4 : Stand p l e rx2 s m args below meth c T4 _ 0 0 := X4'
                      refine OwnOut.go (fun t k => st4 _ k) ?_
                      show OwnOut p e s below 0 0 _ (T4.setTop (mkF m 91 #[.val (.int x0)] [(.int o4)]))
                      by_cases hc91 : o4 = (0 : Int32)
                      · rw [if_pos hc91] at hr
                        refine OwnOut.go (fun t k => XS.ifNo X4.here hx rfl (hb hby d2_91) rfl (XT.i0_ne_f hc91) k) ?_
                        show OwnOut p e s below 0 0 _ (T4.setTop (mkF m 94 #[.val (.int x0)] []))
                        refine OwnOut.go (fun t k => XS.iloadN X4.here hx rfl (hb hby d2_94) rfl k) ?_
                        show OwnOut p e s below 0 0 _ (T4.setTop (mkF m 95 #[.val (.int x0)] [(.int x0)]))
                        refine OwnOut.go (fun t k => XT.sipushV X4.here hx rfl (8206 : Int32) (hb hby d2_95) rfl k) ?_
                        show OwnOut p e s below 0 0 _ (T4.setTop (mkF m 98 #[.val (.int x0)] [(.int (8206 : Int32)), (.int x0)]))
                        refine OwnOut.go (fun t k => XT.sipushV X4.here hx rfl (8303 : Int32) (hb hby d2_98) rfl k) ?_
                        show OwnOut p e s below 0 0 _ (T4.setTop (mkF m 101 #[.val (.int x0)] [(.int (8303 : Int32)), (.int (8206 : Int32)), (.int x0)]))
                        obtain ⟨o5, ho5, hr⟩ := Option.bind_eq_some_iff.mp hr
                        obtain ⟨r5, T5, L5, X5', hQ5, st5⟩ := callQ (W := 0) (rm := rx3) X4 hx hZ (y := (⟨"com/example/libnodeset/libnodeset/tree/XmlCharactersIsNameStartPinLaw", "in", "(III)Z"⟩ : MethodName)) hown (hw _ (List.mem_of_getElem? (i := 20) rfl)) (hw _ (List.mem_of_getElem? (i := 21) rfl)) (hw _ (List.mem_of_getElem? (i := 18) rfl)) (hw _ (List.mem_of_getElem? (i := 22) rfl)) (by decide) (rm3 l Z a0 hw [] x0 (8206 : Int32) (8303 : Int32) h0 o5 ho5 ) (by decide) (by decide) (by decide) (by decide) e4 (g := (mkF m 101 #[.val (.int x0)] [(.int (8303 : Int32)), (.int (8206 : Int32)), (.int x0)])) rfl (by rw [hml]; rfl) (argsL := [(.int x0), (.int (8206 : Int32)), (.int (8303 : Int32))]) (rest := []) (lenOf pd3 rfl) rfl (by show 2 * 0 + _ ≤ _; exact Nat.le_of_eq rfl) (hb hby d2_101)
                        obtain ⟨rfl, e5, rfl⟩ := hQ5
                        rw [List.append_nil] at X5'
                        have X5 : Stand p l e rx2 s m args below meth c T5 _ 0 0 := X5'
                        refine OwnOut.go (fun t k => st5 _ k) ?_
                        show OwnOut p e s below 0 0 _ (T5.setTop (mkF m 104 #[.val (.int x0)] [(.int o5)]))
                        by_cases hc104 : o5 = (0 : Int32)
                        · rw [if_pos hc104] at hr
                          refine OwnOut.go (fun t k => XS.ifNo X5.here hx rfl (hb hby d2_104) rfl (XT.i0_ne_f hc104) k) ?_
                          show OwnOut p e s below 0 0 _ (T5.setTop (mkF m 107 #[.val (.int x0)] []))
                          refine OwnOut.go (fun t k => XS.iloadN X5.here hx rfl (hb hby d2_107) rfl k) ?_
                          show OwnOut p e s below 0 0 _ (T5.setTop (mkF m 108 #[.val (.int x0)] [(.int x0)]))
                          refine OwnOut.go (fun t k => XT.sipushV X5.here hx rfl (8592 : Int32) (hb hby d2_108) rfl k) ?_
                          show OwnOut p e s below 0 0 _ (T5.setTop (mkF m 111 #[.val (.int x0)] [(.int (8592 : Int32)), (.int x0)]))
                          refine OwnOut.go (fun t k => XT.sipushV X5.here hx rfl (11263 : Int32) (hb hby d2_111) rfl k) ?_
                          show OwnOut p e s below 0 0 _ (T5.setTop (mkF m 114 #[.val (.int x0)] [(.int (11263 : Int32)), (.int (8592 : Int32)), (.int x0)]))
                          obtain ⟨o6, ho6, hr⟩ := Option.bind_eq_some_iff.mp hr
                          obtain ⟨r6, T6, L6, X6', hQ6, st6⟩ := callQ (W := 0) (rm := rx3) X5 hx hZ (y := (⟨"com/example/libnodeset/libnodeset/tree/XmlCharactersIsNameStartPinLaw", "in", "(III)Z"⟩ : MethodName)) hown (hw _ (List.mem_of_getElem? (i := 20) rfl)) (hw _ (List.mem_of_getElem? (i := 21) rfl)) (hw _ (List.mem_of_getElem? (i := 18) rfl)) (hw _ (List.mem_of_getElem? (i := 22) rfl)) (by decide) (rm3 l Z a0 hw [] x0 (8592 : Int32) (11263 : Int32) h0 o6 ho6 ) (by decide) (by decide) (by decide) (by decide) e5 (g := (mkF m 114 #[.val (.int x0)] [(.int (11263 : Int32)), (.int (8592 : Int32)), (.int x0)])) rfl (by rw [hml]; rfl) (argsL := [(.int x0), (.int (8592 : Int32)), (.int (11263 : Int32))]) (rest := []) (lenOf pd3 rfl) rfl (by show 2 * 0 + _ ≤ _; exact Nat.le_of_eq rfl) (hb hby d2_114)
                          obtain ⟨rfl, e6, rfl⟩ := hQ6
                          rw [List.append_nil] at X6'
                          have X6 : Stand p l e rx2 s m args below meth c T6 _ 0 0 := X6'
                          refine OwnOut.go (fun t k => st6 _ k) ?_
                          show OwnOut p e s below 0 0 _ (T6.setTop (mkF m 117 #[.val (.int x0)] [(.int o6)]))
                          by_cases hc117 : o6 = (0 : Int32)
                          · rw [if_pos hc117] at hr
                            refine OwnOut.go (fun t k => XS.ifNo X6.here hx rfl (hb hby d2_117) rfl (XT.i0_ne_f hc117) k) ?_
                            show OwnOut p e s below 0 0 _ (T6.setTop (mkF m 120 #[.val (.int x0)] []))
                            refine OwnOut.go (fun t k => XS.iloadN X6.here hx rfl (hb hby d2_120) rfl k) ?_
                            show OwnOut p e s below 0 0 _ (T6.setTop (mkF m 121 #[.val (.int x0)] [(.int x0)]))
                            refine OwnOut.go (fun t k => XT.sipushV X6.here hx rfl (12272 : Int32) (hb hby d2_121) rfl k) ?_
                            show OwnOut p e s below 0 0 _ (T6.setTop (mkF m 124 #[.val (.int x0)] [(.int (12272 : Int32)), (.int x0)]))
                            refine OwnOut.go (fun t k => XT.sipushV X6.here hx rfl (12288 : Int32) (hb hby d2_124) rfl k) ?_
                            show OwnOut p e s below 0 0 _ (T6.setTop (mkF m 127 #[.val (.int x0)] [(.int (12288 : Int32)), (.int (12272 : Int32)), (.int x0)]))
                            obtain ⟨o7, ho7, hr⟩ := Option.bind_eq_some_iff.mp hr
                            obtain ⟨r7, T7, L7, X7', hQ7, st7⟩ := callQ (W := 0) (rm := rx3) X6 hx hZ (y := (⟨"com/example/libnodeset/libnodeset/tree/XmlCharactersIsNameStartPinLaw", "in", "(III)Z"⟩ : MethodName)) hown (hw _ (List.mem_of_getElem? (i := 20) rfl)) (hw _ (List.mem_of_getElem? (i := 21) rfl)) (hw _ (List.mem_of_getElem? (i := 18) rfl)) (hw _ (List.mem_of_getElem? (i := 22) rfl)) (by decide) (rm3 l Z a0 hw [] x0 (12272 : Int32) (12288 : Int32) h0 o7 ho7 ) (by decide) (by decide) (by decide) (by decide) e6 (g := (mkF m 127 #[.val (.int x0)] [(.int (12288 : Int32)), (.int (12272 : Int32)), (.int x0)])) rfl (by rw [hml]; rfl) (argsL := [(.int x0), (.int (12272 : Int32)), (.int (12288 : Int32))]) (rest := []) (lenOf pd3 rfl) rfl (by show 2 * 0 + _ ≤ _; exact Nat.le_of_eq rfl) (hb hby d2_127)
                            obtain ⟨rfl, e7, rfl⟩ := hQ7
                            rw [List.append_nil] at X7'
                            have X7 : Stand p l e rx2 s m args below meth c T7 _ 0 0 := X7'
                            refine OwnOut.go (fun t k => st7 _ k) ?_
                            show OwnOut p e s below 0 0 _ (T7.setTop (mkF m 130 #[.val (.int x0)] [(.int o7)]))
                            by_cases hc130 : o7 = (0 : Int32)
                            · rw [if_pos hc130] at hr
                              refine OwnOut.go (fun t k => XS.ifYes X7.here hx rfl (pc0 := 130) (pc' := 135) rfl (hb hby d2_130) rfl (XT.i0_eq_t hc130) (by decide) (by decide) k) ?_
                              show OwnOut p e s below 0 0 _ (T7.setTop (mkF m 135 #[.val (.int x0)] []))
                              refine OwnOut.go (fun t k => XS.iloadN X7.here hx rfl (hb hby d2_135) rfl k) ?_
                              show OwnOut p e s below 0 0 _ (T7.setTop (mkF m 136 #[.val (.int x0)] [(.int x0)]))
                              refine OwnOut.go (fun t k => X7.ldcInt hx hown (mvT hZ (hw _ (List.mem_of_getElem? (i := 23) rfl))) (g := (mkF m 136 #[.val (.int x0)] [(.int x0)])) rfl (hb hby d2_136) _ k) ?_
                              show OwnOut p e s below 0 0 _ (T7.setTop (mkF m 138 #[.val (.int x0)] [(.int (55296 : Int32)), (.int x0)]))
                              refine OwnOut.go (fun t k => X7.ldcInt hx hown (mvT hZ (hw _ (List.mem_of_getElem? (i := 24) rfl))) (g := (mkF m 138 #[.val (.int x0)] [(.int (55296 : Int32)), (.int x0)])) rfl (hb hby d2_138) _ k) ?_
                              show OwnOut p e s below 0 0 _ (T7.setTop (mkF m 140 #[.val (.int x0)] [(.int (63743 : Int32)), (.int (55296 : Int32)), (.int x0)]))
                              obtain ⟨o8, ho8, hr⟩ := Option.bind_eq_some_iff.mp hr
                              obtain ⟨r8, T8, L8, X8', hQ8, st8⟩ := callQ (W := 0) (rm := rx3) X7 hx hZ (y := (⟨"com/example/libnodeset/libnodeset/tree/XmlCharactersIsNameStartPinLaw", "in", "(III)Z"⟩ : MethodName)) hown (hw _ (List.mem_of_getElem? (i := 20) rfl)) (hw _ (List.mem_of_getElem? (i := 21) rfl)) (hw _ (List.mem_of_getElem? (i := 18) rfl)) (hw _ (List.mem_of_getElem? (i := 22) rfl)) (by decide) (rm3 l Z a0 hw [] x0 (55296 : Int32) (63743 : Int32) h0 o8 ho8 ) (by decide) (by decide) (by decide) (by decide) e7 (g := (mkF m 140 #[.val (.int x0)] [(.int (63743 : Int32)), (.int (55296 : Int32)), (.int x0)])) rfl (by rw [hml]; rfl) (argsL := [(.int x0), (.int (55296 : Int32)), (.int (63743 : Int32))]) (rest := []) (lenOf pd3 rfl) rfl (by show 2 * 0 + _ ≤ _; exact Nat.le_of_eq rfl) (hb hby d2_140)
                              obtain ⟨rfl, e8, rfl⟩ := hQ8
                              rw [List.append_nil] at X8'
                              have X8 : Stand p l e rx2 s m args below meth c T8 _ 0 0 := X8'
                              refine OwnOut.go (fun t k => st8 _ k) ?_
                              show OwnOut p e s below 0 0 _ (T8.setTop (mkF m 143 #[.val (.int x0)] [(.int o8)]))
                              by_cases hc143 : o8 = (0 : Int32)
                              · rw [if_pos hc143] at hr
                                refine OwnOut.go (fun t k => XS.ifNo X8.here hx rfl (hb hby d2_143) rfl (XT.i0_ne_f hc143) k) ?_
                                show OwnOut p e s below 0 0 _ (T8.setTop (mkF m 146 #[.val (.int x0)] []))
                                refine OwnOut.go (fun t k => XS.iloadN X8.here hx rfl (hb hby d2_146) rfl k) ?_
                                show OwnOut p e s below 0 0 _ (T8.setTop (mkF m 147 #[.val (.int x0)] [(.int x0)]))
                                refine OwnOut.go (fun t k => X8.ldcInt hx hown (mvT hZ (hw _ (List.mem_of_getElem? (i := 25) rfl))) (g := (mkF m 147 #[.val (.int x0)] [(.int x0)])) rfl (hb hby d2_147) _ k) ?_
                                show OwnOut p e s below 0 0 _ (T8.setTop (mkF m 149 #[.val (.int x0)] [(.int (64976 : Int32)), (.int x0)]))
                                refine OwnOut.go (fun t k => X8.ldcInt hx hown (mvT hZ (hw _ (List.mem_of_getElem? (i := 26) rfl))) (g := (mkF m 149 #[.val (.int x0)] [(.int (64976 : Int32)), (.int x0)])) rfl (hb hby d2_149) _ k) ?_
                                show OwnOut p e s below 0 0 _ (T8.setTop (mkF m 151 #[.val (.int x0)] [(.int (65007 : Int32)), (.int (64976 : Int32)), (.int x0)]))
                                obtain ⟨o9, ho9, hr⟩ := Option.bind_eq_some_iff.mp hr
                                obtain ⟨r9, T9, L9, X9', hQ9, st9⟩ := callQ (W := 0) (rm := rx3) X8 hx hZ (y := (⟨"com/example/libnodeset/libnodeset/tree/XmlCharactersIsNameStartPinLaw", "in", "(III)Z"⟩ : MethodName)) hown (hw _ (List.mem_of_getElem? (i := 20) rfl)) (hw _ (List.mem_of_getElem? (i := 21) rfl)) (hw _ (List.mem_of_getElem? (i := 18) rfl)) (hw _ (List.mem_of_getElem? (i := 22) rfl)) (by decide) (rm3 l Z a0 hw [] x0 (64976 : Int32) (65007 : Int32) h0 o9 ho9 ) (by decide) (by decide) (by decide) (by decide) e8 (g := (mkF m 151 #[.val (.int x0)] [(.int (65007 : Int32)), (.int (64976 : Int32)), (.int x0)])) rfl (by rw [hml]; rfl) (argsL := [(.int x0), (.int (64976 : Int32)), (.int (65007 : Int32))]) (rest := []) (lenOf pd3 rfl) rfl (by show 2 * 0 + _ ≤ _; exact Nat.le_of_eq rfl) (hb hby d2_151)
                                obtain ⟨rfl, e9, rfl⟩ := hQ9
                                rw [List.append_nil] at X9'
                                have X9 : Stand p l e rx2 s m args below meth c T9 _ 0 0 := X9'
                                refine OwnOut.go (fun t k => st9 _ k) ?_
                                show OwnOut p e s below 0 0 _ (T9.setTop (mkF m 154 #[.val (.int x0)] [(.int o9)]))
                                by_cases hc154 : o9 = (0 : Int32)
                                · rw [if_pos hc154] at hr
                                  refine OwnOut.go (fun t k => XS.ifNo X9.here hx rfl (hb hby d2_154) rfl (XT.i0_ne_f hc154) k) ?_
                                  show OwnOut p e s below 0 0 _ (T9.setTop (mkF m 157 #[.val (.int x0)] []))
                                  refine OwnOut.go (fun t k => XS.iloadN X9.here hx rfl (hb hby d2_157) rfl k) ?_
                                  show OwnOut p e s below 0 0 _ (T9.setTop (mkF m 158 #[.val (.int x0)] [(.int x0)]))
                                  refine OwnOut.go (fun t k => X9.ldcInt hx hown (mvT hZ (hw _ (List.mem_of_getElem? (i := 27) rfl))) (g := (mkF m 158 #[.val (.int x0)] [(.int x0)])) rfl (hb hby d2_158) _ k) ?_
                                  show OwnOut p e s below 0 0 _ (T9.setTop (mkF m 160 #[.val (.int x0)] [(.int (65534 : Int32)), (.int x0)]))
                                  refine OwnOut.go (fun t k => X9.ldcInt hx hown (mvT hZ (hw _ (List.mem_of_getElem? (i := 28) rfl))) (g := (mkF m 160 #[.val (.int x0)] [(.int (65534 : Int32)), (.int x0)])) rfl (hb hby d2_160) _ k) ?_
                                  show OwnOut p e s below 0 0 _ (T9.setTop (mkF m 162 #[.val (.int x0)] [(.int (65535 : Int32)), (.int (65534 : Int32)), (.int x0)]))
                                  obtain ⟨o10, ho10, hr⟩ := Option.bind_eq_some_iff.mp hr
                                  obtain ⟨r10, T10, L10, X10', hQ10, st10⟩ := callQ (W := 0) (rm := rx3) X9 hx hZ (y := (⟨"com/example/libnodeset/libnodeset/tree/XmlCharactersIsNameStartPinLaw", "in", "(III)Z"⟩ : MethodName)) hown (hw _ (List.mem_of_getElem? (i := 20) rfl)) (hw _ (List.mem_of_getElem? (i := 21) rfl)) (hw _ (List.mem_of_getElem? (i := 18) rfl)) (hw _ (List.mem_of_getElem? (i := 22) rfl)) (by decide) (rm3 l Z a0 hw [] x0 (65534 : Int32) (65535 : Int32) h0 o10 ho10 ) (by decide) (by decide) (by decide) (by decide) e9 (g := (mkF m 162 #[.val (.int x0)] [(.int (65535 : Int32)), (.int (65534 : Int32)), (.int x0)])) rfl (by rw [hml]; rfl) (argsL := [(.int x0), (.int (65534 : Int32)), (.int (65535 : Int32))]) (rest := []) (lenOf pd3 rfl) rfl (by show 2 * 0 + _ ≤ _; exact Nat.le_of_eq rfl) (hb hby d2_162)
                                  obtain ⟨rfl, e10, rfl⟩ := hQ10
                                  rw [List.append_nil] at X10'
                                  have X10 : Stand p l e rx2 s m args below meth c T10 _ 0 0 := X10'
                                  refine OwnOut.go (fun t k => st10 _ k) ?_
                                  show OwnOut p e s below 0 0 _ (T10.setTop (mkF m 165 #[.val (.int x0)] [(.int o10)]))
                                  by_cases hc165 : o10 = (0 : Int32)
                                  · rw [if_pos hc165] at hr
                                    refine OwnOut.go (fun t k => XS.ifYes X10.here hx rfl (pc0 := 165) (pc' := 170) rfl (hb hby d2_165) rfl (XT.i0_eq_t hc165) (by decide) (by decide) k) ?_
                                    show OwnOut p e s below 0 0 _ (T10.setTop (mkF m 170 #[.val (.int x0)] []))
                                    refine OwnOut.go (fun t k => XT.iconstV X10.here hx rfl (1 : Int32) (hb hby d2_170) rfl k) ?_
                                    show OwnOut p e s below 0 0 _ (T10.setTop (mkF m 171 #[.val (.int x0)] [(.int (1 : Int32))]))
                                    cases hr
                                    exact outZ X10 hx hret (hb hby d2_171) hlk (by decide) (by decide) ⟨rfl, e10, rfl⟩
                                  · rw [if_neg hc165] at hr
                                    refine OwnOut.go (fun t k => XS.ifNo X10.here hx rfl (hb hby d2_165) rfl (XT.i0_eq_f hc165) k) ?_
                                    show OwnOut p e s below 0 0 _ (T10.setTop (mkF m 168 #[.val (.int x0)] []))
                                    refine OwnOut.go (fun t k => XT.iconstV X10.here hx rfl (0 : Int32) (hb hby d2_168) rfl k) ?_
                                    show OwnOut p e s below 0 0 _ (T10.setTop (mkF m 169 #[.val (.int x0)] [(.int (0 : Int32))]))
                                    cases hr
                                    exact outZ X10 hx hret (hb hby d2_169) hlk (by decide) (by decide) ⟨rfl, e10, rfl⟩
                                · rw [if_neg hc154] at hr
                                  refine OwnOut.go (fun t k => XS.ifYes X9.here hx rfl (pc0 := 154) (pc' := 168) rfl (hb hby d2_154) rfl (XT.i0_ne_t hc154) (by decide) (by decide) k) ?_
                                  show OwnOut p e s below 0 0 _ (T9.setTop (mkF m 168 #[.val (.int x0)] []))
                                  refine OwnOut.go (fun t k => XT.iconstV X9.here hx rfl (0 : Int32) (hb hby d2_168) rfl k) ?_
                                  show OwnOut p e s below 0 0 _ (T9.setTop (mkF m 169 #[.val (.int x0)] [(.int (0 : Int32))]))
                                  cases hr
                                  exact outZ X9 hx hret (hb hby d2_169) hlk (by decide) (by decide) ⟨rfl, e9, rfl⟩
                              · rw [if_neg hc143] at hr
                                refine OwnOut.go (fun t k => XS.ifYes X8.here hx rfl (pc0 := 143) (pc' := 168) rfl (hb hby d2_143) rfl (XT.i0_ne_t hc143) (by decide) (by decide) k) ?_
                                show OwnOut p e s below 0 0 _ (T8.setTop (mkF m 168 #[.val (.int x0)] []))
                                refine OwnOut.go (fun t k => XT.iconstV X8.here hx rfl (0 : Int32) (hb hby d2_168) rfl k) ?_
                                show OwnOut p e s below 0 0 _ (T8.setTop (mkF m 169 #[.val (.int x0)] [(.int (0 : Int32))]))
                                cases hr
                                exact outZ X8 hx hret (hb hby d2_169) hlk (by decide) (by decide) ⟨rfl, e8, rfl⟩
                            · rw [if_neg hc130] at hr
                              refine OwnOut.go (fun t k => XS.ifNo X7.here hx rfl (hb hby d2_130) rfl (XT.i0_eq_f hc130) k) ?_
                              show OwnOut p e s below 0 0 _ (T7.setTop (mkF m 133 #[.val (.int x0)] []))
                              refine OwnOut.go (fun t k => XT.iconstV X7.here hx rfl (0 : Int32) (hb hby d2_133) rfl k) ?_
                              show OwnOut p e s below 0 0 _ (T7.setTop (mkF m 134 #[.val (.int x0)] [(.int (0 : Int32))]))
                              cases hr
                              exact outZ X7 hx hret (hb hby d2_134) hlk (by decide) (by decide) ⟨rfl, e7, rfl⟩
                          · rw [if_neg hc117] at hr
                            refine OwnOut.go (fun t k => XS.ifYes X6.here hx rfl (pc0 := 117) (pc' := 133) rfl (hb hby d2_117) rfl (XT.i0_ne_t hc117) (by decide) (by decide) k) ?_
                            show OwnOut p e s below 0 0 _ (T6.setTop (mkF m 133 #[.val (.int x0)] []))
                            refine OwnOut.go (fun t k => XT.iconstV X6.here hx rfl (0 : Int32) (hb hby d2_133) rfl k) ?_
                            show OwnOut p e s below 0 0 _ (T6.setTop (mkF m 134 #[.val (.int x0)] [(.int (0 : Int32))]))
                            cases hr
                            exact outZ X6 hx hret (hb hby d2_134) hlk (by decide) (by decide) ⟨rfl, e6, rfl⟩
                        · rw [if_neg hc104] at hr
                          refine OwnOut.go (fun t k => XS.ifYes X5.here hx rfl (pc0 := 104) (pc' := 133) rfl (hb hby d2_104) rfl (XT.i0_ne_t hc104) (by decide) (by decide) k) ?_
                          show OwnOut p e s below 0 0 _ (T5.setTop (mkF m 133 #[.val (.int x0)] []))
                          refine OwnOut.go (fun t k => XT.iconstV X5.here hx rfl (0 : Int32) (hb hby d2_133) rfl k) ?_
                          show OwnOut p e s below 0 0 _ (T5.setTop (mkF m 134 #[.val (.int x0)] [(.int (0 : Int32))]))
                          cases hr
                          exact outZ X5 hx hret (hb hby d2_134) hlk (by decide) (by decide) ⟨rfl, e5, rfl⟩
                      · rw [if_neg hc91] at hr
                        refine OwnOut.go (fun t k => XS.ifYes X4.here hx rfl (pc0 := 91) (pc' := 133) rfl (hb hby d2_91) rfl (XT.i0_ne_t hc91) (by decide) (by decide) k) ?_
                        show OwnOut p e s below 0 0 _ (T4.setTop (mkF m 133 #[.val (.int x0)] []))
                        refine OwnOut.go (fun t k => XT.iconstV X4.here hx rfl (0 : Int32) (hb hby d2_133) rfl k) ?_
                        show OwnOut p e s below 0 0 _ (T4.setTop (mkF m 134 #[.val (.int x0)] [(.int (0 : Int32))]))
                        cases hr
                        exact outZ X4 hx hret (hb hby d2_134) hlk (by decide) (by decide) ⟨rfl, e4, rfl⟩
                  · rw [if_neg hc69] at hr
                    refine OwnOut.go (fun t k => XS.ifYes X3.here hx rfl (pc0 := 69) (pc' := 79) rfl (hb hby d2_69) rfl (XT.i0_ne_t hc69) (by decide) (by decide) k) ?_
                    show OwnOut p e s below 0 0 _ (T3.setTop (mkF m 79 #[.val (.int x0)] []))
                    refine OwnOut.go (fun t k => XT.iconstV X3.here hx rfl (0 : Int32) (hb hby d2_79) rfl k) ?_
                    show OwnOut p e s below 0 0 _ (T3.setTop (mkF m 80 #[.val (.int x0)] [(.int (0 : Int32))]))
                    cases hr
                    exact outZ X3 hx hret (hb hby d2_80) hlk (by decide) (by decide) ⟨rfl, e3, rfl⟩
            · rw [if_neg hc40] at hr
              refine OwnOut.go (fun t k => XS.ifYes X2.here hx rfl (pc0 := 40) (pc' := 57) rfl (hb hby d2_40) rfl (XT.i0_ne_t hc40) (by decide) (by decide) k) ?_
              show OwnOut p e s below 0 0 _ (T2.setTop (mkF m 57 #[.val (.int x0)] []))
              refine OwnOut.go (fun t k => XT.iconstV X2.here hx rfl (0 : Int32) (hb hby d2_57) rfl k) ?_
              show OwnOut p e s below 0 0 _ (T2.setTop (mkF m 58 #[.val (.int x0)] [(.int (0 : Int32))]))
              cases hr
              exact outZ X2 hx hret (hb hby d2_58) hlk (by decide) (by decide) ⟨rfl, e2, rfl⟩
        · rw [if_neg hc22] at hr
          refine OwnOut.go (fun t k => XS.ifYes X1.here hx rfl (pc0 := 22) (pc' := 57) rfl (hb hby d2_22) rfl (XT.i0_ne_t hc22) (by decide) (by decide) k) ?_
          show OwnOut p e s below 0 0 _ (T1.setTop (mkF m 57 #[.val (.int x0)] []))
          refine OwnOut.go (fun t k => XT.iconstV X1.here hx rfl (0 : Int32) (hb hby d2_57) rfl k) ?_
          show OwnOut p e s below 0 0 _ (T1.setTop (mkF m 58 #[.val (.int x0)] [(.int (0 : Int32))]))
          cases hr
          exact outZ X1 hx hret (hb hby d2_58) hlk (by decide) (by decide) ⟨rfl, e1, rfl⟩
set_option maxRecDepth 65536 in
set_option maxHeartbeats 40000000 in
theorem rm2 (l : Launch) (Z : State) (a0 : Array Value) (hw : ∀ d ∈ tables_1, d.before a0 Z = true) (ws : List Jvm.Cond) (x0 : Int32) (h0 : Heap) (o : Int32) (hr : f2 x0 = some o) :
    MetFree l (⟨"com/example/libnodeset/libnodeset/tree/XmlCharactersIsNameStartPinLaw", "ref", "(I)Z"⟩ : MethodName) (head1 (Jvm.Cond.code (⟨"com/example/libnodeset/libnodeset/tree/XmlCharactersIsNameStartPinLaw", "ref", "(I)Z"⟩ : MethodName) method_3_code 1 (some .boolean) :: ws) rx2) (fun a U => a = #[(.int x0)] ∧ Z.Warmed39 U.vm ∧ U.heap = h0) (fun _ _ _ _ _ => True) (fun _ U o' U' => ∃ v L, o' = .returned v ∧ Q2 Z x0 h0 o v U'.heap L ∧ FrameEnd U o' U' L rx2.cells rx2.slots) := by
  refine MetFree.of_bodySF (plainFor_of_name pn2) hisR ?_
  intro p e s m args below meth c s₁ Bd hml0 hP hK
  obtain ⟨rfl, hZ, hh⟩ := hP
  have X0 : Stand p l e rx2 s m #[(.int x0)] below meth c s₁ [] 0 0 := Stand.of_body Bd
  have e0 : s₁.heap = h0 := by rw [← hh, Bd.state]; rfl
  exact OwnOut.at (ef2 m x0) (w2_0 ⟨Bd.exec, hZ, hw, Bd.bytes, hml0, findClass_of_methodNamed Bd.named, Bd.returns, Bd.notSynchronized, (name_of_methodNamed Bd.named Bd.method).1⟩ _ x0 o hr X0 e0  )
-- body 0 as 0: com/example/libnodeset/libnodeset/tree/XmlCharactersIsNameStartPinLaw.law:(III)Z
theorem pn0 : plainName "com/example/libnodeset/libnodeset/tree/XmlCharactersIsNameStartPinLaw" = true := by first | (simp [plainName, overriddenIn]; done) | decide +kernel
theorem pd0 : parseMethodDescriptor "(III)Z" = some ⟨[.int, .int, .int], some .boolean⟩ := by decide +kernel
theorem ef0 (m : MethodId) (x0 : Int32) (x1 : Int32) (x2 : Int32) : entryFrame m #[(.int x0), (.int x1), (.int x2)] maxLocals = mkF m 0 #[.val (.int x0), .val (.int x1), .val (.int x2), .unset, .unset, .unset, .unset] [] := by first | (simp [entryFrame, mkF, argsToLocals, Value.category, maxLocals]; done) | rfl
abbrev Cx0 (Z : State) (a0 : Array Value) (p : Program) (s : State) (m : MethodId) (meth : Method) (c : Code) : Prop := p.tables.exec = Jvm.exec ∧ Z.Warmed39 s.vm ∧ (∀ d ∈ tables_1, d.before a0 Z = true) ∧ c.code = code ∧ c.maxLocals = 7 ∧ s.vm.findClass "com/example/libnodeset/libnodeset/tree/XmlCharactersIsNameStartPinLaw" = some m.cls ∧ meth.sig.returnType = (some .boolean) ∧ meth.locks = false ∧ meth.name = "law"
def Q0 (Z : State) (x0 : Int32) (x1 : Int32) (x2 : Int32) (h0 : Heap) (n0 : Nat) (o : Int32) (v : Option Value) (h : Heap) (L : List Loc) : Prop := v = some (.int o) ∧ Fr n0 L
def f0_243 (x5 : Int32) (y0 : Int32) : Option (Int32) := (if x5 = (0 : Int32) then some ((0 : Int32)) else (if y0 = (0 : Int32) then some ((0 : Int32)) else some ((1 : Int32))))
set_option maxRecDepth 65536 in
set_option maxHeartbeats 40000000 in
theorem w0_243 {p : Program} {l : Launch} {e : Env} {s : State} {m : MethodId} {args : Array Value} {below : List Frame} {meth : Method} {c : Code} {Z : State} {a0 : Array Value} {h0 : Heap} {n0 : Nat} (C : Cx0 Z a0 p s m meth c) :
    ∀ (T : State) (locs : List Loc) (hA : Heap) (x0 : Int32) (x1 : Int32) (x2 : Int32) (x4 : Int32) (x5 : Int32) (y0 : Int32) (b0 : Addr) (l0 : List Int32) (o : Int32), f0_243 x5 y0 = some o → Stand p l e room_1 s m args below meth c T locs 1 29 → T.heap = hA → Fr n0 locs → Old Z n0 hA → Keep h0 hA [] → (Ari Z hA b0 .int l0) → (n0 ≤ b0) → (h0.size ≤ b0) →  OwnOut p e s below 16 128 (Q0 Z default default default h0 n0 o) (T.setTop (mkF m 243 #[.val (.int x0), .val (.int x1), .val (.int x2), .val (.ref b0), .val (.int x4), .val (.int x5), .unset] [(.int y0)])) := by
    obtain ⟨hx, hZ, hw, hby, hml, hown, hret, hlk, hnm⟩ := C
    intro T locs hA x0 x1 x2 x4 x5 y0 b0 l0 o hr X0 e0 N0 O0 K0 A0 g0 z0
    rw [f0_243] at hr
    refine OwnOut.go (fun t k => XS.istore X0.here hx rfl (hb hby at_243) rfl (l' := #[.val (.int x0), .val (.int x1), .val (.int x2), .val (.ref b0), .val (.int x4), .val (.int x5), .val (.int y0)]) rfl k) ?_
    show OwnOut p e s below 16 128 _ (T.setTop (mkF m 245 #[.val (.int x0), .val (.int x1), .val (.int x2), .val (.ref b0), .val (.int x4), .val (.int x5), .val (.int y0)] []))
    refine OwnOut.go (fun t k => XS.iload X0.here hx rfl (hb hby at_245) rfl k) ?_
    show OwnOut p e s below 16 128 _ (T.setTop (mkF m 247 #[.val (.int x0), .val (.int x1), .val (.int x2), .val (.ref b0), .val (.int x4), .val (.int x5), .val (.int y0)] [(.int x5)]))
    by_cases hc247 : x5 = (0 : Int32)
    · rw [if_pos hc247] at hr
      refine OwnOut.go (fun t k => XS.ifYes X0.here hx rfl (pc0 := 247) (pc' := 259) rfl (hb hby at_247) rfl (XT.i0_eq_t hc247) (by decide) (by decide) k) ?_
      show OwnOut p e s below 16 128 _ (T.setTop (mkF m 259 #[.val (.int x0), .val (.int x1), .val (.int x2), .val (.ref b0), .val (.int x4), .val (.int x5), .val (.int y0)] []))
      refine OwnOut.go (fun t k => XT.iconstV X0.here hx rfl (0 : Int32) (hb hby at_259) rfl k) ?_
      show OwnOut p e s below 16 128 _ (T.setTop (mkF m 260 #[.val (.int x0), .val (.int x1), .val (.int x2), .val (.ref b0), .val (.int x4), .val (.int x5), .val (.int y0)] [(.int (0 : Int32))]))
      cases hr
      exact outZ X0 hx hret (hb hby at_260) hlk (by decide) (by decide) ⟨rfl, N0⟩
    · rw [if_neg hc247] at hr
      refine OwnOut.go (fun t k => XS.ifNo X0.here hx rfl (hb hby at_247) rfl (XT.i0_eq_f hc247) k) ?_
      show OwnOut p e s below 16 128 _ (T.setTop (mkF m 250 #[.val (.int x0), .val (.int x1), .val (.int x2), .val (.ref b0), .val (.int x4), .val (.int x5), .val (.int y0)] []))
      refine OwnOut.go (fun t k => XS.iload X0.here hx rfl (hb hby at_250) rfl k) ?_
      show OwnOut p e s below 16 128 _ (T.setTop (mkF m 252 #[.val (.int x0), .val (.int x1), .val (.int x2), .val (.ref b0), .val (.int x4), .val (.int x5), .val (.int y0)] [(.int y0)]))
      by_cases hc252 : y0 = (0 : Int32)
      · rw [if_pos hc252] at hr
        refine OwnOut.go (fun t k => XS.ifYes X0.here hx rfl (pc0 := 252) (pc' := 259) rfl (hb hby at_252) rfl (XT.i0_eq_t hc252) (by decide) (by decide) k) ?_
        show OwnOut p e s below 16 128 _ (T.setTop (mkF m 259 #[.val (.int x0), .val (.int x1), .val (.int x2), .val (.ref b0), .val (.int x4), .val (.int x5), .val (.int y0)] []))
        refine OwnOut.go (fun t k => XT.iconstV X0.here hx rfl (0 : Int32) (hb hby at_259) rfl k) ?_
        show OwnOut p e s below 16 128 _ (T.setTop (mkF m 260 #[.val (.int x0), .val (.int x1), .val (.int x2), .val (.ref b0), .val (.int x4), .val (.int x5), .val (.int y0)] [(.int (0 : Int32))]))
        cases hr
        exact outZ X0 hx hret (hb hby at_260) hlk (by decide) (by decide) ⟨rfl, N0⟩
      · rw [if_neg hc252] at hr
        refine OwnOut.go (fun t k => XS.ifNo X0.here hx rfl (hb hby at_252) rfl (XT.i0_eq_f hc252) k) ?_
        show OwnOut p e s below 16 128 _ (T.setTop (mkF m 255 #[.val (.int x0), .val (.int x1), .val (.int x2), .val (.ref b0), .val (.int x4), .val (.int x5), .val (.int y0)] []))
        refine OwnOut.go (fun t k => XT.iconstV X0.here hx rfl (1 : Int32) (hb hby at_255) rfl k) ?_
        show OwnOut p e s below 16 128 _ (T.setTop (mkF m 256 #[.val (.int x0), .val (.int x1), .val (.int x2), .val (.ref b0), .val (.int x4), .val (.int x5), .val (.int y0)] [(.int (1 : Int32))]))
        refine OwnOut.go (fun t k => XS.goto X0.here hx rfl (pc0 := 256) (pc' := 260) rfl (hb hby at_256) (by decide) (by decide) k) ?_
        show OwnOut p e s below 16 128 _ (T.setTop (mkF m 260 #[.val (.int x0), .val (.int x1), .val (.int x2), .val (.ref b0), .val (.int x4), .val (.int x5), .val (.int y0)] [(.int (1 : Int32))]))
        cases hr
        exact outZ X0 hx hret (hb hby at_260) hlk (by decide) (by decide) ⟨rfl, N0⟩
def f0_223 (x4 : Int32) (y0 : Int32) : Option (Int32) := ((f1 x4).bind fun o34 => ((f2 x4).bind fun o35 => (if o34 = o35 then (f0_243 y0 (1 : Int32)) else (f0_243 y0 (0 : Int32)))))
set_option maxRecDepth 65536 in
set_option maxHeartbeats 40000000 in
theorem w0_223 {p : Program} {l : Launch} {e : Env} {s : State} {m : MethodId} {args : Array Value} {below : List Frame} {meth : Method} {c : Code} {Z : State} {a0 : Array Value} {h0 : Heap} {n0 : Nat} (C : Cx0 Z a0 p s m meth c) :
    ∀ (T : State) (locs : List Loc) (hA : Heap) (x0 : Int32) (x1 : Int32) (x2 : Int32) (x4 : Int32) (y0 : Int32) (b0 : Addr) (l0 : List Int32) (o : Int32), f0_223 x4 y0 = some o → Stand p l e room_1 s m args below meth c T locs 1 29 → T.heap = hA → Fr n0 locs → Old Z n0 hA → Keep h0 hA [] → (Ari Z hA b0 .int l0) → (n0 ≤ b0) → (h0.size ≤ b0) →  OwnOut p e s below 16 128 (Q0 Z default default default h0 n0 o) (T.setTop (mkF m 223 #[.val (.int x0), .val (.int x1), .val (.int x2), .val (.ref b0), .val (.int x4), .unset, .unset] [(.int y0)])) := by
    obtain ⟨hx, hZ, hw, hby, hml, hown, hret, hlk, hnm⟩ := C
    intro T locs hA x0 x1 x2 x4 y0 b0 l0 o hr X0 e0 N0 O0 K0 A0 g0 z0
    rw [f0_223] at hr
    refine OwnOut.go (fun t k => XS.istore X0.here hx rfl (hb hby at_223) rfl (l' := #[.val (.int x0), .val (.int x1), .val (.int x2), .val (.ref b0), .val (.int x4), .val (.int y0), .unset]) rfl k) ?_
    show OwnOut p e s below 16 128 _ (T.setTop (mkF m 225 #[.val (.int x0), .val (.int x1), .val (.int x2), .val (.ref b0), .val (.int x4), .val (.int y0), .unset] []))
    refine OwnOut.go (fun t k => XS.iload X0.here hx rfl (hb hby at_225) rfl k) ?_
    show OwnOut p e s below 16 128 _ (T.setTop (mkF m 227 #[.val (.int x0), .val (.int x1), .val (.int x2), .val (.ref b0), .val (.int x4), .val (.int y0), .unset] [(.int x4)]))
    obtain ⟨o34, ho34, hr⟩ := Option.bind_eq_some_iff.mp hr
    obtain ⟨r34, T34, L34, X34', hQ34, st34⟩ := callQ (W := 0) (rm := rx1) X0 hx hZ (y := (⟨"com/example/libnodeset/libnodeset/tree/XmlCharacters", "isNameStart", "(I)Z"⟩ : MethodName)) hown (hw _ (List.mem_of_getElem? (i := 9) rfl)) (hw _ (List.mem_of_getElem? (i := 10) rfl)) (hw _ (List.mem_of_getElem? (i := 11) rfl)) (hw _ (List.mem_of_getElem? (i := 12) rfl)) (by decide) (rm1 l Z a0 hw [] x4 hA o34 ho34 ) (by decide) (by decide) (by decide) (by decide) e0 (g := (mkF m 227 #[.val (.int x0), .val (.int x1), .val (.int x2), .val (.ref b0), .val (.int x4), .val (.int y0), .unset] [(.int x4)])) rfl (by rw [hml]; rfl) (argsL := [(.int x4)]) (rest := []) (lenOf pd1 rfl) rfl (by show 2 * 0 + _ ≤ _; exact Nat.le_of_eq rfl) (hb hby at_227)
    obtain ⟨rfl, e34, rfl⟩ := hQ34
    rw [List.append_nil] at X34'
    have X34 : Stand p l e room_1 s m args below meth c T34 _ 1 29 := X34'
    refine OwnOut.go (fun t k => st34 _ k) ?_
    show OwnOut p e s below 16 128 _ (T34.setTop (mkF m 230 #[.val (.int x0), .val (.int x1), .val (.int x2), .val (.ref b0), .val (.int x4), .val (.int y0), .unset] [(.int o34)]))
    refine OwnOut.go (fun t k => XS.iload X34.here hx rfl (hb hby at_230) rfl k) ?_
    show OwnOut p e s below 16 128 _ (T34.setTop (mkF m 232 #[.val (.int x0), .val (.int x1), .val (.int x2), .val (.ref b0), .val (.int x4), .val (.int y0), .unset] [(.int x4), (.int o34)]))
    obtain ⟨o35, ho35, hr⟩ := Option.bind_eq_some_iff.mp hr
    obtain ⟨r35, T35, L35, X35', hQ35, st35⟩ := callQ (W := 1) (rm := rx2) X34 hx hZ (y := (⟨"com/example/libnodeset/libnodeset/tree/XmlCharactersIsNameStartPinLaw", "ref", "(I)Z"⟩ : MethodName)) hown (hw _ (List.mem_of_getElem? (i := 16) rfl)) (hw _ (List.mem_of_getElem? (i := 17) rfl)) (hw _ (List.mem_of_getElem? (i := 18) rfl)) (hw _ (List.mem_of_getElem? (i := 19) rfl)) (by decide) (rm2 l Z a0 hw [] x4 hA o35 ho35 ) (by decide) (by decide) (by decide) (by decide) e34 (g := (mkF m 232 #[.val (.int x0), .val (.int x1), .val (.int x2), .val (.ref b0), .val (.int x4), .val (.int y0), .unset] [(.int x4), (.int o34)])) rfl (by rw [hml]; rfl) (argsL := [(.int x4)]) (rest := [(.int o34)]) (lenOf pd2 rfl) rfl (by show 2 * 0 + _ ≤ _; exact Nat.le_of_eq rfl) (hb hby at_232)
    obtain ⟨rfl, e35, rfl⟩ := hQ35
    rw [List.append_nil] at X35'
    have X35 : Stand p l e room_1 s m args below meth c T35 _ 1 29 := X35'
    refine OwnOut.go (fun t k => st35 _ k) ?_
    show OwnOut p e s below 16 128 _ (T35.setTop (mkF m 235 #[.val (.int x0), .val (.int x1), .val (.int x2), .val (.ref b0), .val (.int x4), .val (.int y0), .unset] [(.int o35), (.int o34)]))
    by_cases hc235 : o34 = o35
    · rw [if_pos hc235] at hr
      refine OwnOut.go (fun t k => XS.icmpNo X35.here hx rfl (hb hby at_235) rfl (XT.ii_ne_f hc235) k) ?_
      show OwnOut p e s below 16 128 _ (T35.setTop (mkF m 238 #[.val (.int x0), .val (.int x1), .val (.int x2), .val (.ref b0), .val (.int x4), .val (.int y0), .unset] []))
      refine OwnOut.go (fun t k => XT.iconstV X35.here hx rfl (1 : Int32) (hb hby at_238) rfl k) ?_
      show OwnOut p e s below 16 128 _ (T35.setTop (mkF m 239 #[.val (.int x0), .val (.int x1), .val (.int x2), .val (.ref b0), .val (.int x4), .val (.int y0), .unset] [(.int (1 : Int32))]))
      refine OwnOut.go (fun t k => XS.goto X35.here hx rfl (pc0 := 239) (pc' := 243) rfl (hb hby at_239) (by decide) (by decide) k) ?_
      show OwnOut p e s below 16 128 _ (T35.setTop (mkF m 243 #[.val (.int x0), .val (.int x1), .val (.int x2), .val (.ref b0), .val (.int x4), .val (.int y0), .unset] [(.int (1 : Int32))]))
      exact w0_243 ⟨hx, hZ, hw, hby, hml, hown, hret, hlk, hnm⟩  _ _ _ x0 x1 x2 x4 y0 (1 : Int32) b0 l0 _ hr X35 e35 N0 O0 K0 A0 g0 z0
    · rw [if_neg hc235] at hr
      refine OwnOut.go (fun t k => XS.icmpYes X35.here hx rfl (pc0 := 235) (pc' := 242) rfl (hb hby at_235) rfl (XT.ii_ne_t hc235) (by decide) (by decide) k) ?_
      show OwnOut p e s below 16 128 _ (T35.setTop (mkF m 242 #[.val (.int x0), .val (.int x1), .val (.int x2), .val (.ref b0), .val (.int x4), .val (.int y0), .unset] []))
      refine OwnOut.go (fun t k => XT.iconstV X35.here hx rfl (0 : Int32) (hb hby at_242) rfl k) ?_
      show OwnOut p e s below 16 128 _ (T35.setTop (mkF m 243 #[.val (.int x0), .val (.int x1), .val (.int x2), .val (.ref b0), .val (.int x4), .val (.int y0), .unset] [(.int (0 : Int32))]))
      exact w0_243 ⟨hx, hZ, hw, hby, hml, hown, hret, hlk, hnm⟩  _ _ _ x0 x1 x2 x4 y0 (0 : Int32) b0 l0 _ hr X35 e35 N0 O0 K0 A0 g0 z0
def f0 (x0 : Int32) (x1 : Int32) (x2 : Int32) : Option (Int32) := ((ldx [(65 : Int32), (90 : Int32), (95 : Int32), (97 : Int32), (122 : Int32), (192 : Int32), (214 : Int32), (216 : Int32), (246 : Int32), (248 : Int32), (767 : Int32), (880 : Int32), (893 : Int32), (895 : Int32), (8191 : Int32), (8204 : Int32), (8205 : Int32), (8304 : Int32), (8591 : Int32), (11264 : Int32), (12271 : Int32), (12289 : Int32), (55295 : Int32), (63744 : Int32), (64975 : Int32), (65008 : Int32), (65533 : Int32), (65536 : Int32), (983039 : Int32)] ((x1 &&& (2147483647 : Int32)) % (29 : Int32))).bind fun v31 => ((f1 x0).bind fun o32 => ((f2 x0).bind fun o33 => (if o32 = o33 then (f0_223 (v31 + ((x2 &&& (3 : Int32)) - (1 : Int32))) (1 : Int32)) else (f0_223 (v31 + ((x2 &&& (3 : Int32)) - (1 : Int32))) (0 : Int32))))))
set_option maxRecDepth 65536 in
set_option maxHeartbeats 40000000 in
theorem w0_0 {p : Program} {l : Launch} {e : Env} {s : State} {m : MethodId} {args : Array Value} {below : List Frame} {meth : Method} {c : Code} {Z : State} {a0 : Array Value} {h0 : Heap} {n0 : Nat} (C : Cx0 Z a0 p s m meth c) :
    ∀ (T : State) (locs : List Loc) (hA : Heap) (x0 : Int32) (x1 : Int32) (x2 : Int32) (o : Int32), f0 x0 x1 x2 = some o → Stand p l e room_1 s m args below meth c T locs 0 0 → T.heap = hA → Fr n0 locs → Old Z n0 hA → Keep h0 hA [] →  OwnOut p e s below 16 128 (Q0 Z default default default h0 n0 o) (T.setTop (mkF m 0 #[.val (.int x0), .val (.int x1), .val (.int x2), .unset, .unset, .unset, .unset] [])) := by
    obtain ⟨hx, hZ, hw, hby, hml, hown, hret, hlk, hnm⟩ := C
    intro T locs hA x0 x1 x2 o hr X0 e0 N0 O0 K0
    rw [f0] at hr
    refine OwnOut.go (fun t k => XT.bipushV X0.here hx rfl (29 : Int32) (hb hby at_0) rfl k) ?_
    show OwnOut p e s below 16 128 _ (T.setTop (mkF m 2 #[.val (.int x0), .val (.int x1), .val (.int x2), .unset, .unset, .unset, .unset] [(.int (29 : Int32))]))
    obtain ⟨T1, h1, X1, e1, Ex1, A_1, st1⟩ := nwA X0 hx hZ (hw _ (List.mem_of_getElem? (i := 0) rfl)) e0 (rfl : nwx (0 : Int32) 29 (29 : Int32) = some [(0 : Int32), (0 : Int32), (0 : Int32), (0 : Int32), (0 : Int32), (0 : Int32), (0 : Int32), (0 : Int32), (0 : Int32), (0 : Int32), (0 : Int32), (0 : Int32), (0 : Int32), (0 : Int32), (0 : Int32), (0 : Int32), (0 : Int32), (0 : Int32), (0 : Int32), (0 : Int32), (0 : Int32), (0 : Int32), (0 : Int32), (0 : Int32), (0 : Int32), (0 : Int32), (0 : Int32), (0 : Int32), (0 : Int32)]) (f := Value.int) rfl (g := (mkF m 2 #[.val (.int x0), .val (.int x1), .val (.int x2), .unset, .unset, .unset, .unset] [(.int (29 : Int32))])) rfl rfl (hb hby at_2) (by decide) (by decide) (by decide)
    obtain ⟨c1, gc1⟩ : ∃ z, z = hA.size := ⟨_, rfl⟩
    rw [← gc1] at A_1 st1
    refine OwnOut.go (fun t k => st1 _ k) ?_
    have g_1 : n0 ≤ c1 := gc1 ▸ (O0.1 ▸ O0.2.1)
    have z_1 : h0.size ≤ c1 := gc1 ▸ K0.1
    have O_1 := O0.ext Ex1
    have K_1 := K0.ext Ex1
    show OwnOut p e s below 16 128 _ (T1.setTop (mkF m 4 #[.val (.int x0), .val (.int x1), .val (.int x2), .unset, .unset, .unset, .unset] [(.ref c1)]))
    refine OwnOut.go (fun t k => XS.dup X1.here hx rfl (hb hby at_4) rfl rfl k) ?_
    show OwnOut p e s below 16 128 _ (T1.setTop (mkF m 5 #[.val (.int x0), .val (.int x1), .val (.int x2), .unset, .unset, .unset, .unset] [(.ref c1), (.ref c1)]))
    refine OwnOut.go (fun t k => XT.iconstV X1.here hx rfl (0 : Int32) (hb hby at_5) rfl k) ?_
    show OwnOut p e s below 16 128 _ (T1.setTop (mkF m 6 #[.val (.int x0), .val (.int x1), .val (.int x2), .unset, .unset, .unset, .unset] [(.int (0 : Int32)), (.ref c1), (.ref c1)]))
    refine OwnOut.go (fun t k => XT.bipushV X1.here hx rfl (65 : Int32) (hb hby at_6) rfl k) ?_
    show OwnOut p e s below 16 128 _ (T1.setTop (mkF m 8 #[.val (.int x0), .val (.int x1), .val (.int x2), .unset, .unset, .unset, .unset] [(.int (65 : Int32)), (.int (0 : Int32)), (.ref c1), (.ref c1)]))
    obtain ⟨T2, h2, X2, e2, W2, A_2, st2⟩ := saI X1 hx hZ e1 A_1 (rfl : stx [(0 : Int32), (0 : Int32), (0 : Int32), (0 : Int32), (0 : Int32), (0 : Int32), (0 : Int32), (0 : Int32), (0 : Int32), (0 : Int32), (0 : Int32), (0 : Int32), (0 : Int32), (0 : Int32), (0 : Int32), (0 : Int32), (0 : Int32), (0 : Int32), (0 : Int32), (0 : Int32), (0 : Int32), (0 : Int32), (0 : Int32), (0 : Int32), (0 : Int32), (0 : Int32), (0 : Int32), (0 : Int32), (0 : Int32)] (0 : Int32) (65 : Int32) = some [(65 : Int32), (0 : Int32), (0 : Int32), (0 : Int32), (0 : Int32), (0 : Int32), (0 : Int32), (0 : Int32), (0 : Int32), (0 : Int32), (0 : Int32), (0 : Int32), (0 : Int32), (0 : Int32), (0 : Int32), (0 : Int32), (0 : Int32), (0 : Int32), (0 : Int32), (0 : Int32), (0 : Int32), (0 : Int32), (0 : Int32), (0 : Int32), (0 : Int32), (0 : Int32), (0 : Int32), (0 : Int32), (0 : Int32)]) (g := (mkF m 8 #[.val (.int x0), .val (.int x1), .val (.int x2), .unset, .unset, .unset, .unset] [(.int (65 : Int32)), (.int (0 : Int32)), (.ref c1), (.ref c1)])) rfl rfl (hb hby at_8)
    refine OwnOut.go (fun t k => st2 _ k) ?_
    have N_2 := Fr.snoc X2 N0 g_1
    have O_2 := O_1.wr W2 g_1
    have K_2 := K_1.wr W2 (Or.inr z_1)
    show OwnOut p e s below 16 128 _ (T2.setTop (mkF m 9 #[.val (.int x0), .val (.int x1), .val (.int x2), .unset, .unset, .unset, .unset] [(.ref c1)]))
    refine OwnOut.go (fun t k => XS.dup X2.here hx rfl (hb hby at_9) rfl rfl k) ?_
    show OwnOut p e s below 16 128 _ (T2.setTop (mkF m 10 #[.val (.int x0), .val (.int x1), .val (.int x2), .unset, .unset, .unset, .unset] [(.ref c1), (.ref c1)]))
    refine OwnOut.go (fun t k => XT.iconstV X2.here hx rfl (1 : Int32) (hb hby at_10) rfl k) ?_
    show OwnOut p e s below 16 128 _ (T2.setTop (mkF m 11 #[.val (.int x0), .val (.int x1), .val (.int x2), .unset, .unset, .unset, .unset] [(.int (1 : Int32)), (.ref c1), (.ref c1)]))
    refine OwnOut.go (fun t k => XT.bipushV X2.here hx rfl (90 : Int32) (hb hby at_11) rfl k) ?_
    show OwnOut p e s below 16 128 _ (T2.setTop (mkF m 13 #[.val (.int x0), .val (.int x1), .val (.int x2), .unset, .unset, .unset, .unset] [(.int (90 : Int32)), (.int (1 : Int32)), (.ref c1), (.ref c1)]))
    obtain ⟨T3, h3, X3, e3, W3, A_3, st3⟩ := saI X2 hx hZ e2 A_2 (rfl : stx [(65 : Int32), (0 : Int32), (0 : Int32), (0 : Int32), (0 : Int32), (0 : Int32), (0 : Int32), (0 : Int32), (0 : Int32), (0 : Int32), (0 : Int32), (0 : Int32), (0 : Int32), (0 : Int32), (0 : Int32), (0 : Int32), (0 : Int32), (0 : Int32), (0 : Int32), (0 : Int32), (0 : Int32), (0 : Int32), (0 : Int32), (0 : Int32), (0 : Int32), (0 : Int32), (0 : Int32), (0 : Int32), (0 : Int32)] (1 : Int32) (90 : Int32) = some [(65 : Int32), (90 : Int32), (0 : Int32), (0 : Int32), (0 : Int32), (0 : Int32), (0 : Int32), (0 : Int32), (0 : Int32), (0 : Int32), (0 : Int32), (0 : Int32), (0 : Int32), (0 : Int32), (0 : Int32), (0 : Int32), (0 : Int32), (0 : Int32), (0 : Int32), (0 : Int32), (0 : Int32), (0 : Int32), (0 : Int32), (0 : Int32), (0 : Int32), (0 : Int32), (0 : Int32), (0 : Int32), (0 : Int32)]) (g := (mkF m 13 #[.val (.int x0), .val (.int x1), .val (.int x2), .unset, .unset, .unset, .unset] [(.int (90 : Int32)), (.int (1 : Int32)), (.ref c1), (.ref c1)])) rfl rfl (hb hby at_13)
    refine OwnOut.go (fun t k => st3 _ k) ?_
    have N_3 := Fr.snoc X3 N_2 g_1
    have O_3 := O_2.wr W3 g_1
    have K_3 := K_2.wr W3 (Or.inr z_1)
    show OwnOut p e s below 16 128 _ (T3.setTop (mkF m 14 #[.val (.int x0), .val (.int x1), .val (.int x2), .unset, .unset, .unset, .unset] [(.ref c1)]))
    refine OwnOut.go (fun t k => XS.dup X3.here hx rfl (hb hby at_14) rfl rfl k) ?_
    show OwnOut p e s below 16 128 _ (T3.setTop (mkF m 15 #[.val (.int x0), .val (.int x1), .val (.int x2), .unset, .unset, .unset, .unset] [(.ref c1), (.ref c1)]))
    refine OwnOut.go (fun t k => XT.iconstV X3.here hx rfl (2 : Int32) (hb hby at_15) rfl k) ?_
    show OwnOut p e s below 16 128 _ (T3.setTop (mkF m 16 #[.val (.int x0), .val (.int x1), .val (.int x2), .unset, .unset, .unset, .unset] [(.int (2 : Int32)), (.ref c1), (.ref c1)]))
    refine OwnOut.go (fun t k => XT.bipushV X3.here hx rfl (95 : Int32) (hb hby at_16) rfl k) ?_
    show OwnOut p e s below 16 128 _ (T3.setTop (mkF m 18 #[.val (.int x0), .val (.int x1), .val (.int x2), .unset, .unset, .unset, .unset] [(.int (95 : Int32)), (.int (2 : Int32)), (.ref c1), (.ref c1)]))
    obtain ⟨T4, h4, X4, e4, W4, A_4, st4⟩ := saI X3 hx hZ e3 A_3 (rfl : stx [(65 : Int32), (90 : Int32), (0 : Int32), (0 : Int32), (0 : Int32), (0 : Int32), (0 : Int32), (0 : Int32), (0 : Int32), (0 : Int32), (0 : Int32), (0 : Int32), (0 : Int32), (0 : Int32), (0 : Int32), (0 : Int32), (0 : Int32), (0 : Int32), (0 : Int32), (0 : Int32), (0 : Int32), (0 : Int32), (0 : Int32), (0 : Int32), (0 : Int32), (0 : Int32), (0 : Int32), (0 : Int32), (0 : Int32)] (2 : Int32) (95 : Int32) = some [(65 : Int32), (90 : Int32), (95 : Int32), (0 : Int32), (0 : Int32), (0 : Int32), (0 : Int32), (0 : Int32), (0 : Int32), (0 : Int32), (0 : Int32), (0 : Int32), (0 : Int32), (0 : Int32), (0 : Int32), (0 : Int32), (0 : Int32), (0 : Int32), (0 : Int32), (0 : Int32), (0 : Int32), (0 : Int32), (0 : Int32), (0 : Int32), (0 : Int32), (0 : Int32), (0 : Int32), (0 : Int32), (0 : Int32)]) (g := (mkF m 18 #[.val (.int x0), .val (.int x1), .val (.int x2), .unset, .unset, .unset, .unset] [(.int (95 : Int32)), (.int (2 : Int32)), (.ref c1), (.ref c1)])) rfl rfl (hb hby at_18)
    refine OwnOut.go (fun t k => st4 _ k) ?_
    have N_4 := Fr.snoc X4 N_3 g_1
    have O_4 := O_3.wr W4 g_1
    have K_4 := K_3.wr W4 (Or.inr z_1)
    show OwnOut p e s below 16 128 _ (T4.setTop (mkF m 19 #[.val (.int x0), .val (.int x1), .val (.int x2), .unset, .unset, .unset, .unset] [(.ref c1)]))
    refine OwnOut.go (fun t k => XS.dup X4.here hx rfl (hb hby at_19) rfl rfl k) ?_
    show OwnOut p e s below 16 128 _ (T4.setTop (mkF m 20 #[.val (.int x0), .val (.int x1), .val (.int x2), .unset, .unset, .unset, .unset] [(.ref c1), (.ref c1)]))
    refine OwnOut.go (fun t k => XT.iconstV X4.here hx rfl (3 : Int32) (hb hby at_20) rfl k) ?_
    show OwnOut p e s below 16 128 _ (T4.setTop (mkF m 21 #[.val (.int x0), .val (.int x1), .val (.int x2), .unset, .unset, .unset, .unset] [(.int (3 : Int32)), (.ref c1), (.ref c1)]))
    refine OwnOut.go (fun t k => XT.bipushV X4.here hx rfl (97 : Int32) (hb hby at_21) rfl k) ?_
    show OwnOut p e s below 16 128 _ (T4.setTop (mkF m 23 #[.val (.int x0), .val (.int x1), .val (.int x2), .unset, .unset, .unset, .unset] [(.int (97 : Int32)), (.int (3 : Int32)), (.ref c1), (.ref c1)]))
    obtain ⟨T5, h5, X5, e5, W5, A_5, st5⟩ := saI X4 hx hZ e4 A_4 (rfl : stx [(65 : Int32), (90 : Int32), (95 : Int32), (0 : Int32), (0 : Int32), (0 : Int32), (0 : Int32), (0 : Int32), (0 : Int32), (0 : Int32), (0 : Int32), (0 : Int32), (0 : Int32), (0 : Int32), (0 : Int32), (0 : Int32), (0 : Int32), (0 : Int32), (0 : Int32), (0 : Int32), (0 : Int32), (0 : Int32), (0 : Int32), (0 : Int32), (0 : Int32), (0 : Int32), (0 : Int32), (0 : Int32), (0 : Int32)] (3 : Int32) (97 : Int32) = some [(65 : Int32), (90 : Int32), (95 : Int32), (97 : Int32), (0 : Int32), (0 : Int32), (0 : Int32), (0 : Int32), (0 : Int32), (0 : Int32), (0 : Int32), (0 : Int32), (0 : Int32), (0 : Int32), (0 : Int32), (0 : Int32), (0 : Int32), (0 : Int32), (0 : Int32), (0 : Int32), (0 : Int32), (0 : Int32), (0 : Int32), (0 : Int32), (0 : Int32), (0 : Int32), (0 : Int32), (0 : Int32), (0 : Int32)]) (g := (mkF m 23 #[.val (.int x0), .val (.int x1), .val (.int x2), .unset, .unset, .unset, .unset] [(.int (97 : Int32)), (.int (3 : Int32)), (.ref c1), (.ref c1)])) rfl rfl (hb hby at_23)
    refine OwnOut.go (fun t k => st5 _ k) ?_
    have N_5 := Fr.snoc X5 N_4 g_1
    have O_5 := O_4.wr W5 g_1
    have K_5 := K_4.wr W5 (Or.inr z_1)
    show OwnOut p e s below 16 128 _ (T5.setTop (mkF m 24 #[.val (.int x0), .val (.int x1), .val (.int x2), .unset, .unset, .unset, .unset] [(.ref c1)]))
    refine OwnOut.go (fun t k => XS.dup X5.here hx rfl (hb hby at_24) rfl rfl k) ?_
    show OwnOut p e s below 16 128 _ (T5.setTop (mkF m 25 #[.val (.int x0), .val (.int x1), .val (.int x2), .unset, .unset, .unset, .unset] [(.ref c1), (.ref c1)]))
    refine OwnOut.go (fun t k => XT.iconstV X5.here hx rfl (4 : Int32) (hb hby at_25) rfl k) ?_
    show OwnOut p e s below 16 128 _ (T5.setTop (mkF m 26 #[.val (.int x0), .val (.int x1), .val (.int x2), .unset, .unset, .unset, .unset] [(.int (4 : Int32)), (.ref c1), (.ref c1)]))
    refine OwnOut.go (fun t k => XT.bipushV X5.here hx rfl (122 : Int32) (hb hby at_26) rfl k) ?_
    show OwnOut p e s below 16 128 _ (T5.setTop (mkF m 28 #[.val (.int x0), .val (.int x1), .val (.int x2), .unset, .unset, .unset, .unset] [(.int (122 : Int32)), (.int (4 : Int32)), (.ref c1), (.ref c1)]))
    obtain ⟨T6, h6, X6, e6, W6, A_6, st6⟩ := saI X5 hx hZ e5 A_5 (rfl : stx [(65 : Int32), (90 : Int32), (95 : Int32), (97 : Int32), (0 : Int32), (0 : Int32), (0 : Int32), (0 : Int32), (0 : Int32), (0 : Int32), (0 : Int32), (0 : Int32), (0 : Int32), (0 : Int32), (0 : Int32), (0 : Int32), (0 : Int32), (0 : Int32), (0 : Int32), (0 : Int32), (0 : Int32), (0 : Int32), (0 : Int32), (0 : Int32), (0 : Int32), (0 : Int32), (0 : Int32), (0 : Int32), (0 : Int32)] (4 : Int32) (122 : Int32) = some [(65 : Int32), (90 : Int32), (95 : Int32), (97 : Int32), (122 : Int32), (0 : Int32), (0 : Int32), (0 : Int32), (0 : Int32), (0 : Int32), (0 : Int32), (0 : Int32), (0 : Int32), (0 : Int32), (0 : Int32), (0 : Int32), (0 : Int32), (0 : Int32), (0 : Int32), (0 : Int32), (0 : Int32), (0 : Int32), (0 : Int32), (0 : Int32), (0 : Int32), (0 : Int32), (0 : Int32), (0 : Int32), (0 : Int32)]) (g := (mkF m 28 #[.val (.int x0), .val (.int x1), .val (.int x2), .unset, .unset, .unset, .unset] [(.int (122 : Int32)), (.int (4 : Int32)), (.ref c1), (.ref c1)])) rfl rfl (hb hby at_28)
    refine OwnOut.go (fun t k => st6 _ k) ?_
    have N_6 := Fr.snoc X6 N_5 g_1
    have O_6 := O_5.wr W6 g_1
    have K_6 := K_5.wr W6 (Or.inr z_1)
    show OwnOut p e s below 16 128 _ (T6.setTop (mkF m 29 #[.val (.int x0), .val (.int x1), .val (.int x2), .unset, .unset, .unset, .unset] [(.ref c1)]))
    refine OwnOut.go (fun t k => XS.dup X6.here hx rfl (hb hby at_29) rfl rfl k) ?_
    show OwnOut p e s below 16 128 _ (T6.setTop (mkF m 30 #[.val (.int x0), .val (.int x1), .val (.int x2), .unset, .unset, .unset, .unset] [(.ref c1), (.ref c1)]))
    refine OwnOut.go (fun t k => XT.iconstV X6.here hx rfl (5 : Int32) (hb hby at_30) rfl k) ?_
    show OwnOut p e s below 16 128 _ (T6.setTop (mkF m 31 #[.val (.int x0), .val (.int x1), .val (.int x2), .unset, .unset, .unset, .unset] [(.int (5 : Int32)), (.ref c1), (.ref c1)]))
    refine OwnOut.go (fun t k => XT.sipushV X6.here hx rfl (192 : Int32) (hb hby at_31) rfl k) ?_
    show OwnOut p e s below 16 128 _ (T6.setTop (mkF m 34 #[.val (.int x0), .val (.int x1), .val (.int x2), .unset, .unset, .unset, .unset] [(.int (192 : Int32)), (.int (5 : Int32)), (.ref c1), (.ref c1)]))
    obtain ⟨T7, h7, X7, e7, W7, A_7, st7⟩ := saI X6 hx hZ e6 A_6 (rfl : stx [(65 : Int32), (90 : Int32), (95 : Int32), (97 : Int32), (122 : Int32), (0 : Int32), (0 : Int32), (0 : Int32), (0 : Int32), (0 : Int32), (0 : Int32), (0 : Int32), (0 : Int32), (0 : Int32), (0 : Int32), (0 : Int32), (0 : Int32), (0 : Int32), (0 : Int32), (0 : Int32), (0 : Int32), (0 : Int32), (0 : Int32), (0 : Int32), (0 : Int32), (0 : Int32), (0 : Int32), (0 : Int32), (0 : Int32)] (5 : Int32) (192 : Int32) = some [(65 : Int32), (90 : Int32), (95 : Int32), (97 : Int32), (122 : Int32), (192 : Int32), (0 : Int32), (0 : Int32), (0 : Int32), (0 : Int32), (0 : Int32), (0 : Int32), (0 : Int32), (0 : Int32), (0 : Int32), (0 : Int32), (0 : Int32), (0 : Int32), (0 : Int32), (0 : Int32), (0 : Int32), (0 : Int32), (0 : Int32), (0 : Int32), (0 : Int32), (0 : Int32), (0 : Int32), (0 : Int32), (0 : Int32)]) (g := (mkF m 34 #[.val (.int x0), .val (.int x1), .val (.int x2), .unset, .unset, .unset, .unset] [(.int (192 : Int32)), (.int (5 : Int32)), (.ref c1), (.ref c1)])) rfl rfl (hb hby at_34)
    refine OwnOut.go (fun t k => st7 _ k) ?_
    have N_7 := Fr.snoc X7 N_6 g_1
    have O_7 := O_6.wr W7 g_1
    have K_7 := K_6.wr W7 (Or.inr z_1)
    show OwnOut p e s below 16 128 _ (T7.setTop (mkF m 35 #[.val (.int x0), .val (.int x1), .val (.int x2), .unset, .unset, .unset, .unset] [(.ref c1)]))
    refine OwnOut.go (fun t k => XS.dup X7.here hx rfl (hb hby at_35) rfl rfl k) ?_
    show OwnOut p e s below 16 128 _ (T7.setTop (mkF m 36 #[.val (.int x0), .val (.int x1), .val (.int x2), .unset, .unset, .unset, .unset] [(.ref c1), (.ref c1)]))
    refine OwnOut.go (fun t k => XT.bipushV X7.here hx rfl (6 : Int32) (hb hby at_36) rfl k) ?_
    show OwnOut p e s below 16 128 _ (T7.setTop (mkF m 38 #[.val (.int x0), .val (.int x1), .val (.int x2), .unset, .unset, .unset, .unset] [(.int (6 : Int32)), (.ref c1), (.ref c1)]))
    refine OwnOut.go (fun t k => XT.sipushV X7.here hx rfl (214 : Int32) (hb hby at_38) rfl k) ?_
    show OwnOut p e s below 16 128 _ (T7.setTop (mkF m 41 #[.val (.int x0), .val (.int x1), .val (.int x2), .unset, .unset, .unset, .unset] [(.int (214 : Int32)), (.int (6 : Int32)), (.ref c1), (.ref c1)]))
    obtain ⟨T8, h8, X8, e8, W8, A_8, st8⟩ := saI X7 hx hZ e7 A_7 (rfl : stx [(65 : Int32), (90 : Int32), (95 : Int32), (97 : Int32), (122 : Int32), (192 : Int32), (0 : Int32), (0 : Int32), (0 : Int32), (0 : Int32), (0 : Int32), (0 : Int32), (0 : Int32), (0 : Int32), (0 : Int32), (0 : Int32), (0 : Int32), (0 : Int32), (0 : Int32), (0 : Int32), (0 : Int32), (0 : Int32), (0 : Int32), (0 : Int32), (0 : Int32), (0 : Int32), (0 : Int32), (0 : Int32), (0 : Int32)] (6 : Int32) (214 : Int32) = some [(65 : Int32), (90 : Int32), (95 : Int32), (97 : Int32), (122 : Int32), (192 : Int32), (214 : Int32), (0 : Int32), (0 : Int32), (0 : Int32), (0 : Int32), (0 : Int32), (0 : Int32), (0 : Int32), (0 : Int32), (0 : Int32), (0 : Int32), (0 : Int32), (0 : Int32), (0 : Int32), (0 : Int32), (0 : Int32), (0 : Int32), (0 : Int32), (0 : Int32), (0 : Int32), (0 : Int32), (0 : Int32), (0 : Int32)]) (g := (mkF m 41 #[.val (.int x0), .val (.int x1), .val (.int x2), .unset, .unset, .unset, .unset] [(.int (214 : Int32)), (.int (6 : Int32)), (.ref c1), (.ref c1)])) rfl rfl (hb hby at_41)
    refine OwnOut.go (fun t k => st8 _ k) ?_
    have N_8 := Fr.snoc X8 N_7 g_1
    have O_8 := O_7.wr W8 g_1
    have K_8 := K_7.wr W8 (Or.inr z_1)
    show OwnOut p e s below 16 128 _ (T8.setTop (mkF m 42 #[.val (.int x0), .val (.int x1), .val (.int x2), .unset, .unset, .unset, .unset] [(.ref c1)]))
    refine OwnOut.go (fun t k => XS.dup X8.here hx rfl (hb hby at_42) rfl rfl k) ?_
    show OwnOut p e s below 16 128 _ (T8.setTop (mkF m 43 #[.val (.int x0), .val (.int x1), .val (.int x2), .unset, .unset, .unset, .unset] [(.ref c1), (.ref c1)]))
    refine OwnOut.go (fun t k => XT.bipushV X8.here hx rfl (7 : Int32) (hb hby at_43) rfl k) ?_
    show OwnOut p e s below 16 128 _ (T8.setTop (mkF m 45 #[.val (.int x0), .val (.int x1), .val (.int x2), .unset, .unset, .unset, .unset] [(.int (7 : Int32)), (.ref c1), (.ref c1)]))
    refine OwnOut.go (fun t k => XT.sipushV X8.here hx rfl (216 : Int32) (hb hby at_45) rfl k) ?_
    show OwnOut p e s below 16 128 _ (T8.setTop (mkF m 48 #[.val (.int x0), .val (.int x1), .val (.int x2), .unset, .unset, .unset, .unset] [(.int (216 : Int32)), (.int (7 : Int32)), (.ref c1), (.ref c1)]))
    obtain ⟨T9, h9, X9, e9, W9, A_9, st9⟩ := saI X8 hx hZ e8 A_8 (rfl : stx [(65 : Int32), (90 : Int32), (95 : Int32), (97 : Int32), (122 : Int32), (192 : Int32), (214 : Int32), (0 : Int32), (0 : Int32), (0 : Int32), (0 : Int32), (0 : Int32), (0 : Int32), (0 : Int32), (0 : Int32), (0 : Int32), (0 : Int32), (0 : Int32), (0 : Int32), (0 : Int32), (0 : Int32), (0 : Int32), (0 : Int32), (0 : Int32), (0 : Int32), (0 : Int32), (0 : Int32), (0 : Int32), (0 : Int32)] (7 : Int32) (216 : Int32) = some [(65 : Int32), (90 : Int32), (95 : Int32), (97 : Int32), (122 : Int32), (192 : Int32), (214 : Int32), (216 : Int32), (0 : Int32), (0 : Int32), (0 : Int32), (0 : Int32), (0 : Int32), (0 : Int32), (0 : Int32), (0 : Int32), (0 : Int32), (0 : Int32), (0 : Int32), (0 : Int32), (0 : Int32), (0 : Int32), (0 : Int32), (0 : Int32), (0 : Int32), (0 : Int32), (0 : Int32), (0 : Int32), (0 : Int32)]) (g := (mkF m 48 #[.val (.int x0), .val (.int x1), .val (.int x2), .unset, .unset, .unset, .unset] [(.int (216 : Int32)), (.int (7 : Int32)), (.ref c1), (.ref c1)])) rfl rfl (hb hby at_48)
    refine OwnOut.go (fun t k => st9 _ k) ?_
    have N_9 := Fr.snoc X9 N_8 g_1
    have O_9 := O_8.wr W9 g_1
    have K_9 := K_8.wr W9 (Or.inr z_1)
    show OwnOut p e s below 16 128 _ (T9.setTop (mkF m 49 #[.val (.int x0), .val (.int x1), .val (.int x2), .unset, .unset, .unset, .unset] [(.ref c1)]))
    refine OwnOut.go (fun t k => XS.dup X9.here hx rfl (hb hby at_49) rfl rfl k) ?_
    show OwnOut p e s below 16 128 _ (T9.setTop (mkF m 50 #[.val (.int x0), .val (.int x1), .val (.int x2), .unset, .unset, .unset, .unset] [(.ref c1), (.ref c1)]))
    refine OwnOut.go (fun t k => XT.bipushV X9.here hx rfl (8 : Int32) (hb hby at_50) rfl k) ?_
    show OwnOut p e s below 16 128 _ (T9.setTop (mkF m 52 #[.val (.int x0), .val (.int x1), .val (.int x2), .unset, .unset, .unset, .unset] [(.int (8 : Int32)), (.ref c1), (.ref c1)]))
    refine OwnOut.go (fun t k => XT.sipushV X9.here hx rfl (246 : Int32) (hb hby at_52) rfl k) ?_
    show OwnOut p e s below 16 128 _ (T9.setTop (mkF m 55 #[.val (.int x0), .val (.int x1), .val (.int x2), .unset, .unset, .unset, .unset] [(.int (246 : Int32)), (.int (8 : Int32)), (.ref c1), (.ref c1)]))
    obtain ⟨T10, h10, X10, e10, W10, A_10, st10⟩ := saI X9 hx hZ e9 A_9 (rfl : stx [(65 : Int32), (90 : Int32), (95 : Int32), (97 : Int32), (122 : Int32), (192 : Int32), (214 : Int32), (216 : Int32), (0 : Int32), (0 : Int32), (0 : Int32), (0 : Int32), (0 : Int32), (0 : Int32), (0 : Int32), (0 : Int32), (0 : Int32), (0 : Int32), (0 : Int32), (0 : Int32), (0 : Int32), (0 : Int32), (0 : Int32), (0 : Int32), (0 : Int32), (0 : Int32), (0 : Int32), (0 : Int32), (0 : Int32)] (8 : Int32) (246 : Int32) = some [(65 : Int32), (90 : Int32), (95 : Int32), (97 : Int32), (122 : Int32), (192 : Int32), (214 : Int32), (216 : Int32), (246 : Int32), (0 : Int32), (0 : Int32), (0 : Int32), (0 : Int32), (0 : Int32), (0 : Int32), (0 : Int32), (0 : Int32), (0 : Int32), (0 : Int32), (0 : Int32), (0 : Int32), (0 : Int32), (0 : Int32), (0 : Int32), (0 : Int32), (0 : Int32), (0 : Int32), (0 : Int32), (0 : Int32)]) (g := (mkF m 55 #[.val (.int x0), .val (.int x1), .val (.int x2), .unset, .unset, .unset, .unset] [(.int (246 : Int32)), (.int (8 : Int32)), (.ref c1), (.ref c1)])) rfl rfl (hb hby at_55)
    refine OwnOut.go (fun t k => st10 _ k) ?_
    have N_10 := Fr.snoc X10 N_9 g_1
    have O_10 := O_9.wr W10 g_1
    have K_10 := K_9.wr W10 (Or.inr z_1)
    show OwnOut p e s below 16 128 _ (T10.setTop (mkF m 56 #[.val (.int x0), .val (.int x1), .val (.int x2), .unset, .unset, .unset, .unset] [(.ref c1)]))
    refine OwnOut.go (fun t k => XS.dup X10.here hx rfl (hb hby at_56) rfl rfl k) ?_
    show OwnOut p e s below 16 128 _ (T10.setTop (mkF m 57 #[.val (.int x0), .val (.int x1), .val (.int x2), .unset, .unset, .unset, .unset] [(.ref c1), (.ref c1)]))
    refine OwnOut.go (fun t k => XT.bipushV X10.here hx rfl (9 : Int32) (hb hby at_57) rfl k) ?_
    show OwnOut p e s below 16 128 _ (T10.setTop (mkF m 59 #[.val (.int x0), .val (.int x1), .val (.int x2), .unset, .unset, .unset, .unset] [(.int (9 : Int32)), (.ref c1), (.ref c1)]))
    refine OwnOut.go (fun t k => XT.sipushV X10.here hx rfl (248 : Int32) (hb hby at_59) rfl k) ?_
    show OwnOut p e s below 16 128 _ (T10.setTop (mkF m 62 #[.val (.int x0), .val (.int x1), .val (.int x2), .unset, .unset, .unset, .unset] [(.int (248 : Int32)), (.int (9 : Int32)), (.ref c1), (.ref c1)]))
    obtain ⟨T11, h11, X11, e11, W11, A_11, st11⟩ := saI X10 hx hZ e10 A_10 (rfl : stx [(65 : Int32), (90 : Int32), (95 : Int32), (97 : Int32), (122 : Int32), (192 : Int32), (214 : Int32), (216 : Int32), (246 : Int32), (0 : Int32), (0 : Int32), (0 : Int32), (0 : Int32), (0 : Int32), (0 : Int32), (0 : Int32), (0 : Int32), (0 : Int32), (0 : Int32), (0 : Int32), (0 : Int32), (0 : Int32), (0 : Int32), (0 : Int32), (0 : Int32), (0 : Int32), (0 : Int32), (0 : Int32), (0 : Int32)] (9 : Int32) (248 : Int32) = some [(65 : Int32), (90 : Int32), (95 : Int32), (97 : Int32), (122 : Int32), (192 : Int32), (214 : Int32), (216 : Int32), (246 : Int32), (248 : Int32), (0 : Int32), (0 : Int32), (0 : Int32), (0 : Int32), (0 : Int32), (0 : Int32), (0 : Int32), (0 : Int32), (0 : Int32), (0 : Int32), (0 : Int32), (0 : Int32), (0 : Int32), (0 : Int32), (0 : Int32), (0 : Int32), (0 : Int32), (0 : Int32), (0 : Int32)]) (g := (mkF m 62 #[.val (.int x0), .val (.int x1), .val (.int x2), .unset, .unset, .unset, .unset] [(.int (248 : Int32)), (.int (9 : Int32)), (.ref c1), (.ref c1)])) rfl rfl (hb hby at_62)
    refine OwnOut.go (fun t k => st11 _ k) ?_
    have N_11 := Fr.snoc X11 N_10 g_1
    have O_11 := O_10.wr W11 g_1
    have K_11 := K_10.wr W11 (Or.inr z_1)
    show OwnOut p e s below 16 128 _ (T11.setTop (mkF m 63 #[.val (.int x0), .val (.int x1), .val (.int x2), .unset, .unset, .unset, .unset] [(.ref c1)]))
    refine OwnOut.go (fun t k => XS.dup X11.here hx rfl (hb hby at_63) rfl rfl k) ?_
    show OwnOut p e s below 16 128 _ (T11.setTop (mkF m 64 #[.val (.int x0), .val (.int x1), .val (.int x2), .unset, .unset, .unset, .unset] [(.ref c1), (.ref c1)]))
    refine OwnOut.go (fun t k => XT.bipushV X11.here hx rfl (10 : Int32) (hb hby at_64) rfl k) ?_
    show OwnOut p e s below 16 128 _ (T11.setTop (mkF m 66 #[.val (.int x0), .val (.int x1), .val (.int x2), .unset, .unset, .unset, .unset] [(.int (10 : Int32)), (.ref c1), (.ref c1)]))
    refine OwnOut.go (fun t k => XT.sipushV X11.here hx rfl (767 : Int32) (hb hby at_66) rfl k) ?_
    show OwnOut p e s below 16 128 _ (T11.setTop (mkF m 69 #[.val (.int x0), .val (.int x1), .val (.int x2), .unset, .unset, .unset, .unset] [(.int (767 : Int32)), (.int (10 : Int32)), (.ref c1), (.ref c1)]))
    obtain ⟨T12, h12, X12, e12, W12, A_12, st12⟩ := saI X11 hx hZ e11 A_11 (rfl : stx [(65 : Int32), (90 : Int32), (95 : Int32), (97 : Int32), (122 : Int32), (192 : Int32), (214 : Int32), (216 : Int32), (246 : Int32), (248 : Int32), (0 : Int32), (0 : Int32), (0 : Int32), (0 : Int32), (0 : Int32), (0 : Int32), (0 : Int32), (0 : Int32), (0 : Int32), (0 : Int32), (0 : Int32), (0 : Int32), (0 : Int32), (0 : Int32), (0 : Int32), (0 : Int32), (0 : Int32), (0 : Int32), (0 : Int32)] (10 : Int32) (767 : Int32) = some [(65 : Int32), (90 : Int32), (95 : Int32), (97 : Int32), (122 : Int32), (192 : Int32), (214 : Int32), (216 : Int32), (246 : Int32), (248 : Int32), (767 : Int32), (0 : Int32), (0 : Int32), (0 : Int32), (0 : Int32), (0 : Int32), (0 : Int32), (0 : Int32), (0 : Int32), (0 : Int32), (0 : Int32), (0 : Int32), (0 : Int32), (0 : Int32), (0 : Int32), (0 : Int32), (0 : Int32), (0 : Int32), (0 : Int32)]) (g := (mkF m 69 #[.val (.int x0), .val (.int x1), .val (.int x2), .unset, .unset, .unset, .unset] [(.int (767 : Int32)), (.int (10 : Int32)), (.ref c1), (.ref c1)])) rfl rfl (hb hby at_69)
    refine OwnOut.go (fun t k => st12 _ k) ?_
    have N_12 := Fr.snoc X12 N_11 g_1
    have O_12 := O_11.wr W12 g_1
    have K_12 := K_11.wr W12 (Or.inr z_1)
    show OwnOut p e s below 16 128 _ (T12.setTop (mkF m 70 #[.val (.int x0), .val (.int x1), .val (.int x2), .unset, .unset, .unset, .unset] [(.ref c1)]))
    refine OwnOut.go (fun t k => XS.dup X12.here hx rfl (hb hby at_70) rfl rfl k) ?_
    show OwnOut p e s below 16 128 _ (T12.setTop (mkF m 71 #[.val (.int x0), .val (.int x1), .val (.int x2), .unset, .unset, .unset, .unset] [(.ref c1), (.ref c1)]))
    refine OwnOut.go (fun t k => XT.bipushV X12.here hx rfl (11 : Int32) (hb hby at_71) rfl k) ?_
    show OwnOut p e s below 16 128 _ (T12.setTop (mkF m 73 #[.val (.int x0), .val (.int x1), .val (.int x2), .unset, .unset, .unset, .unset] [(.int (11 : Int32)), (.ref c1), (.ref c1)]))
    refine OwnOut.go (fun t k => XT.sipushV X12.here hx rfl (880 : Int32) (hb hby at_73) rfl k) ?_
    show OwnOut p e s below 16 128 _ (T12.setTop (mkF m 76 #[.val (.int x0), .val (.int x1), .val (.int x2), .unset, .unset, .unset, .unset] [(.int (880 : Int32)), (.int (11 : Int32)), (.ref c1), (.ref c1)]))
    obtain ⟨T13, h13, X13, e13, W13, A_13, st13⟩ := saI X12 hx hZ e12 A_12 (rfl : stx [(65 : Int32), (90 : Int32), (95 : Int32), (97 : Int32), (122 : Int32), (192 : Int32), (214 : Int32), (216 : Int32), (246 : Int32), (248 : Int32), (767 : Int32), (0 : Int32), (0 : Int32), (0 : Int32), (0 : Int32), (0 : Int32), (0 : Int32), (0 : Int32), (0 : Int32), (0 : Int32), (0 : Int32), (0 : Int32), (0 : Int32), (0 : Int32), (0 : Int32), (0 : Int32), (0 : Int32), (0 : Int32), (0 : Int32)] (11 : Int32) (880 : Int32) = some [(65 : Int32), (90 : Int32), (95 : Int32), (97 : Int32), (122 : Int32), (192 : Int32), (214 : Int32), (216 : Int32), (246 : Int32), (248 : Int32), (767 : Int32), (880 : Int32), (0 : Int32), (0 : Int32), (0 : Int32), (0 : Int32), (0 : Int32), (0 : Int32), (0 : Int32), (0 : Int32), (0 : Int32), (0 : Int32), (0 : Int32), (0 : Int32), (0 : Int32), (0 : Int32), (0 : Int32), (0 : Int32), (0 : Int32)]) (g := (mkF m 76 #[.val (.int x0), .val (.int x1), .val (.int x2), .unset, .unset, .unset, .unset] [(.int (880 : Int32)), (.int (11 : Int32)), (.ref c1), (.ref c1)])) rfl rfl (hb hby at_76)
    refine OwnOut.go (fun t k => st13 _ k) ?_
    have N_13 := Fr.snoc X13 N_12 g_1
    have O_13 := O_12.wr W13 g_1
    have K_13 := K_12.wr W13 (Or.inr z_1)
    show OwnOut p e s below 16 128 _ (T13.setTop (mkF m 77 #[.val (.int x0), .val (.int x1), .val (.int x2), .unset, .unset, .unset, .unset] [(.ref c1)]))
    refine OwnOut.go (fun t k => XS.dup X13.here hx rfl (hb hby at_77) rfl rfl k) ?_
    show OwnOut p e s below 16 128 _ (T13.setTop (mkF m 78 #[.val (.int x0), .val (.int x1), .val (.int x2), .unset, .unset, .unset, .unset] [(.ref c1), (.ref c1)]))
    refine OwnOut.go (fun t k => XT.bipushV X13.here hx rfl (12 : Int32) (hb hby at_78) rfl k) ?_
    show OwnOut p e s below 16 128 _ (T13.setTop (mkF m 80 #[.val (.int x0), .val (.int x1), .val (.int x2), .unset, .unset, .unset, .unset] [(.int (12 : Int32)), (.ref c1), (.ref c1)]))
    refine OwnOut.go (fun t k => XT.sipushV X13.here hx rfl (893 : Int32) (hb hby at_80) rfl k) ?_
    show OwnOut p e s below 16 128 _ (T13.setTop (mkF m 83 #[.val (.int x0), .val (.int x1), .val (.int x2), .unset, .unset, .unset, .unset] [(.int (893 : Int32)), (.int (12 : Int32)), (.ref c1), (.ref c1)]))
    obtain ⟨T14, h14, X14, e14, W14, A_14, st14⟩ := saI X13 hx hZ e13 A_13 (rfl : stx [(65 : Int32), (90 : Int32), (95 : Int32), (97 : Int32), (122 : Int32), (192 : Int32), (214 : Int32), (216 : Int32), (246 : Int32), (248 : Int32), (767 : Int32), (880 : Int32), (0 : Int32), (0 : Int32), (0 : Int32), (0 : Int32), (0 : Int32), (0 : Int32), (0 : Int32), (0 : Int32), (0 : Int32), (0 : Int32), (0 : Int32), (0 : Int32), (0 : Int32), (0 : Int32), (0 : Int32), (0 : Int32), (0 : Int32)] (12 : Int32) (893 : Int32) = some [(65 : Int32), (90 : Int32), (95 : Int32), (97 : Int32), (122 : Int32), (192 : Int32), (214 : Int32), (216 : Int32), (246 : Int32), (248 : Int32), (767 : Int32), (880 : Int32), (893 : Int32), (0 : Int32), (0 : Int32), (0 : Int32), (0 : Int32), (0 : Int32), (0 : Int32), (0 : Int32), (0 : Int32), (0 : Int32), (0 : Int32), (0 : Int32), (0 : Int32), (0 : Int32), (0 : Int32), (0 : Int32), (0 : Int32)]) (g := (mkF m 83 #[.val (.int x0), .val (.int x1), .val (.int x2), .unset, .unset, .unset, .unset] [(.int (893 : Int32)), (.int (12 : Int32)), (.ref c1), (.ref c1)])) rfl rfl (hb hby at_83)
    refine OwnOut.go (fun t k => st14 _ k) ?_
    have N_14 := Fr.snoc X14 N_13 g_1
    have O_14 := O_13.wr W14 g_1
    have K_14 := K_13.wr W14 (Or.inr z_1)
    show OwnOut p e s below 16 128 _ (T14.setTop (mkF m 84 #[.val (.int x0), .val (.int x1), .val (.int x2), .unset, .unset, .unset, .unset] [(.ref c1)]))
    refine OwnOut.go (fun t k => XS.dup X14.here hx rfl (hb hby at_84) rfl rfl k) ?_
    show OwnOut p e s below 16 128 _ (T14.setTop (mkF m 85 #[.val (.int x0), .val (.int x1), .val (.int x2), .unset, .unset, .unset, .unset] [(.ref c1), (.ref c1)]))
    refine OwnOut.go (fun t k => XT.bipushV X14.here hx rfl (13 : Int32) (hb hby at_85) rfl k) ?_
    show OwnOut p e s below 16 128 _ (T14.setTop (mkF m 87 #[.val (.int x0), .val (.int x1), .val (.int x2), .unset, .unset, .unset, .unset] [(.int (13 : Int32)), (.ref c1), (.ref c1)]))
    refine OwnOut.go (fun t k => XT.sipushV X14.here hx rfl (895 : Int32) (hb hby at_87) rfl k) ?_
    show OwnOut p e s below 16 128 _ (T14.setTop (mkF m 90 #[.val (.int x0), .val (.int x1), .val (.int x2), .unset, .unset, .unset, .unset] [(.int (895 : Int32)), (.int (13 : Int32)), (.ref c1), (.ref c1)]))
    obtain ⟨T15, h15, X15, e15, W15, A_15, st15⟩ := saI X14 hx hZ e14 A_14 (rfl : stx [(65 : Int32), (90 : Int32), (95 : Int32), (97 : Int32), (122 : Int32), (192 : Int32), (214 : Int32), (216 : Int32), (246 : Int32), (248 : Int32), (767 : Int32), (880 : Int32), (893 : Int32), (0 : Int32), (0 : Int32), (0 : Int32), (0 : Int32), (0 : Int32), (0 : Int32), (0 : Int32), (0 : Int32), (0 : Int32), (0 : Int32), (0 : Int32), (0 : Int32), (0 : Int32), (0 : Int32), (0 : Int32), (0 : Int32)] (13 : Int32) (895 : Int32) = some [(65 : Int32), (90 : Int32), (95 : Int32), (97 : Int32), (122 : Int32), (192 : Int32), (214 : Int32), (216 : Int32), (246 : Int32), (248 : Int32), (767 : Int32), (880 : Int32), (893 : Int32), (895 : Int32), (0 : Int32), (0 : Int32), (0 : Int32), (0 : Int32), (0 : Int32), (0 : Int32), (0 : Int32), (0 : Int32), (0 : Int32), (0 : Int32), (0 : Int32), (0 : Int32), (0 : Int32), (0 : Int32), (0 : Int32)]) (g := (mkF m 90 #[.val (.int x0), .val (.int x1), .val (.int x2), .unset, .unset, .unset, .unset] [(.int (895 : Int32)), (.int (13 : Int32)), (.ref c1), (.ref c1)])) rfl rfl (hb hby at_90)
    refine OwnOut.go (fun t k => st15 _ k) ?_
    have N_15 := Fr.snoc X15 N_14 g_1
    have O_15 := O_14.wr W15 g_1
    have K_15 := K_14.wr W15 (Or.inr z_1)
    show OwnOut p e s below 16 128 _ (T15.setTop (mkF m 91 #[.val (.int x0), .val (.int x1), .val (.int x2), .unset, .unset, .unset, .unset] [(.ref c1)]))
    refine OwnOut.go (fun t k => XS.dup X15.here hx rfl (hb hby at_91) rfl rfl k) ?_
    show OwnOut p e s below 16 128 _ (T15.setTop (mkF m 92 #[.val (.int x0), .val (.int x1), .val (.int x2), .unset, .unset, .unset, .unset] [(.ref c1), (.ref c1)]))
    refine OwnOut.go (fun t k => XT.bipushV X15.here hx rfl (14 : Int32) (hb hby at_92) rfl k) ?_
    show OwnOut p e s below 16 128 _ (T15.setTop (mkF m 94 #[.val (.int x0), .val (.int x1), .val (.int x2), .unset, .unset, .unset, .unset] [(.int (14 : Int32)), (.ref c1), (.ref c1)]))
    refine OwnOut.go (fun t k => XT.sipushV X15.here hx rfl (8191 : Int32) (hb hby at_94) rfl k) ?_
    show OwnOut p e s below 16 128 _ (T15.setTop (mkF m 97 #[.val (.int x0), .val (.int x1), .val (.int x2), .unset, .unset, .unset, .unset] [(.int (8191 : Int32)), (.int (14 : Int32)), (.ref c1), (.ref c1)]))
    obtain ⟨T16, h16, X16, e16, W16, A_16, st16⟩ := saI X15 hx hZ e15 A_15 (rfl : stx [(65 : Int32), (90 : Int32), (95 : Int32), (97 : Int32), (122 : Int32), (192 : Int32), (214 : Int32), (216 : Int32), (246 : Int32), (248 : Int32), (767 : Int32), (880 : Int32), (893 : Int32), (895 : Int32), (0 : Int32), (0 : Int32), (0 : Int32), (0 : Int32), (0 : Int32), (0 : Int32), (0 : Int32), (0 : Int32), (0 : Int32), (0 : Int32), (0 : Int32), (0 : Int32), (0 : Int32), (0 : Int32), (0 : Int32)] (14 : Int32) (8191 : Int32) = some [(65 : Int32), (90 : Int32), (95 : Int32), (97 : Int32), (122 : Int32), (192 : Int32), (214 : Int32), (216 : Int32), (246 : Int32), (248 : Int32), (767 : Int32), (880 : Int32), (893 : Int32), (895 : Int32), (8191 : Int32), (0 : Int32), (0 : Int32), (0 : Int32), (0 : Int32), (0 : Int32), (0 : Int32), (0 : Int32), (0 : Int32), (0 : Int32), (0 : Int32), (0 : Int32), (0 : Int32), (0 : Int32), (0 : Int32)]) (g := (mkF m 97 #[.val (.int x0), .val (.int x1), .val (.int x2), .unset, .unset, .unset, .unset] [(.int (8191 : Int32)), (.int (14 : Int32)), (.ref c1), (.ref c1)])) rfl rfl (hb hby at_97)
    refine OwnOut.go (fun t k => st16 _ k) ?_
    have N_16 := Fr.snoc X16 N_15 g_1
    have O_16 := O_15.wr W16 g_1
    have K_16 := K_15.wr W16 (Or.inr z_1)
    show OwnOut p e s below 16 128 _ (T16.setTop (mkF m 98 #[.val (.int x0), .val (.int x1), .val (.int x2), .unset, .unset, .unset, .unset] [(.ref c1)]))
    refine OwnOut.go (fun t k => XS.dup X16.here hx rfl (hb hby at_98) rfl rfl k) ?_
    show OwnOut p e s below 16 128 _ (T16.setTop (mkF m 99 #[.val (.int x0), .val (.int x1), .val (.int x2), .unset, .unset, .unset, .unset] [(.ref c1), (.ref c1)]))
    refine OwnOut.go (fun t k => XT.bipushV X16.here hx rfl (15 : Int32) (hb hby at_99) rfl k) ?_
    show OwnOut p e s below 16 128 _ (T16.setTop (mkF m 101 #[.val (.int x0), .val (.int x1), .val (.int x2), .unset, .unset, .unset, .unset] [(.int (15 : Int32)), (.ref c1), (.ref c1)]))
    refine OwnOut.go (fun t k => XT.sipushV X16.here hx rfl (8204 : Int32) (hb hby at_101) rfl k) ?_
    show OwnOut p e s below 16 128 _ (T16.setTop (mkF m 104 #[.val (.int x0), .val (.int x1), .val (.int x2), .unset, .unset, .unset, .unset] [(.int (8204 : Int32)), (.int (15 : Int32)), (.ref c1), (.ref c1)]))
    obtain ⟨T17, h17, X17, e17, W17, A_17, st17⟩ := saI X16 hx hZ e16 A_16 (rfl : stx [(65 : Int32), (90 : Int32), (95 : Int32), (97 : Int32), (122 : Int32), (192 : Int32), (214 : Int32), (216 : Int32), (246 : Int32), (248 : Int32), (767 : Int32), (880 : Int32), (893 : Int32), (895 : Int32), (8191 : Int32), (0 : Int32), (0 : Int32), (0 : Int32), (0 : Int32), (0 : Int32), (0 : Int32), (0 : Int32), (0 : Int32), (0 : Int32), (0 : Int32), (0 : Int32), (0 : Int32), (0 : Int32), (0 : Int32)] (15 : Int32) (8204 : Int32) = some [(65 : Int32), (90 : Int32), (95 : Int32), (97 : Int32), (122 : Int32), (192 : Int32), (214 : Int32), (216 : Int32), (246 : Int32), (248 : Int32), (767 : Int32), (880 : Int32), (893 : Int32), (895 : Int32), (8191 : Int32), (8204 : Int32), (0 : Int32), (0 : Int32), (0 : Int32), (0 : Int32), (0 : Int32), (0 : Int32), (0 : Int32), (0 : Int32), (0 : Int32), (0 : Int32), (0 : Int32), (0 : Int32), (0 : Int32)]) (g := (mkF m 104 #[.val (.int x0), .val (.int x1), .val (.int x2), .unset, .unset, .unset, .unset] [(.int (8204 : Int32)), (.int (15 : Int32)), (.ref c1), (.ref c1)])) rfl rfl (hb hby at_104)
    refine OwnOut.go (fun t k => st17 _ k) ?_
    have N_17 := Fr.snoc X17 N_16 g_1
    have O_17 := O_16.wr W17 g_1
    have K_17 := K_16.wr W17 (Or.inr z_1)
    show OwnOut p e s below 16 128 _ (T17.setTop (mkF m 105 #[.val (.int x0), .val (.int x1), .val (.int x2), .unset, .unset, .unset, .unset] [(.ref c1)]))
    refine OwnOut.go (fun t k => XS.dup X17.here hx rfl (hb hby at_105) rfl rfl k) ?_
    show OwnOut p e s below 16 128 _ (T17.setTop (mkF m 106 #[.val (.int x0), .val (.int x1), .val (.int x2), .unset, .unset, .unset, .unset] [(.ref c1), (.ref c1)]))
    refine OwnOut.go (fun t k => XT.bipushV X17.here hx rfl (16 : Int32) (hb hby at_106) rfl k) ?_
    show OwnOut p e s below 16 128 _ (T17.setTop (mkF m 108 #[.val (.int x0), .val (.int x1), .val (.int x2), .unset, .unset, .unset, .unset] [(.int (16 : Int32)), (.ref c1), (.ref c1)]))
    refine OwnOut.go (fun t k => XT.sipushV X17.here hx rfl (8205 : Int32) (hb hby at_108) rfl k) ?_
    show OwnOut p e s below 16 128 _ (T17.setTop (mkF m 111 #[.val (.int x0), .val (.int x1), .val (.int x2), .unset, .unset, .unset, .unset] [(.int (8205 : Int32)), (.int (16 : Int32)), (.ref c1), (.ref c1)]))
    obtain ⟨T18, h18, X18, e18, W18, A_18, st18⟩ := saI X17 hx hZ e17 A_17 (rfl : stx [(65 : Int32), (90 : Int32), (95 : Int32), (97 : Int32), (122 : Int32), (192 : Int32), (214 : Int32), (216 : Int32), (246 : Int32), (248 : Int32), (767 : Int32), (880 : Int32), (893 : Int32), (895 : Int32), (8191 : Int32), (8204 : Int32), (0 : Int32), (0 : Int32), (0 : Int32), (0 : Int32), (0 : Int32), (0 : Int32), (0 : Int32), (0 : Int32), (0 : Int32), (0 : Int32), (0 : Int32), (0 : Int32), (0 : Int32)] (16 : Int32) (8205 : Int32) = some [(65 : Int32), (90 : Int32), (95 : Int32), (97 : Int32), (122 : Int32), (192 : Int32), (214 : Int32), (216 : Int32), (246 : Int32), (248 : Int32), (767 : Int32), (880 : Int32), (893 : Int32), (895 : Int32), (8191 : Int32), (8204 : Int32), (8205 : Int32), (0 : Int32), (0 : Int32), (0 : Int32), (0 : Int32), (0 : Int32), (0 : Int32), (0 : Int32), (0 : Int32), (0 : Int32), (0 : Int32), (0 : Int32), (0 : Int32)]) (g := (mkF m 111 #[.val (.int x0), .val (.int x1), .val (.int x2), .unset, .unset, .unset, .unset] [(.int (8205 : Int32)), (.int (16 : Int32)), (.ref c1), (.ref c1)])) rfl rfl (hb hby at_111)
    refine OwnOut.go (fun t k => st18 _ k) ?_
    have N_18 := Fr.snoc X18 N_17 g_1
    have O_18 := O_17.wr W18 g_1
    have K_18 := K_17.wr W18 (Or.inr z_1)
    show OwnOut p e s below 16 128 _ (T18.setTop (mkF m 112 #[.val (.int x0), .val (.int x1), .val (.int x2), .unset, .unset, .unset, .unset] [(.ref c1)]))
    refine OwnOut.go (fun t k => XS.dup X18.here hx rfl (hb hby at_112) rfl rfl k) ?_
    show OwnOut p e s below 16 128 _ (T18.setTop (mkF m 113 #[.val (.int x0), .val (.int x1), .val (.int x2), .unset, .unset, .unset, .unset] [(.ref c1), (.ref c1)]))
    refine OwnOut.go (fun t k => XT.bipushV X18.here hx rfl (17 : Int32) (hb hby at_113) rfl k) ?_
    show OwnOut p e s below 16 128 _ (T18.setTop (mkF m 115 #[.val (.int x0), .val (.int x1), .val (.int x2), .unset, .unset, .unset, .unset] [(.int (17 : Int32)), (.ref c1), (.ref c1)]))
    refine OwnOut.go (fun t k => XT.sipushV X18.here hx rfl (8304 : Int32) (hb hby at_115) rfl k) ?_
    show OwnOut p e s below 16 128 _ (T18.setTop (mkF m 118 #[.val (.int x0), .val (.int x1), .val (.int x2), .unset, .unset, .unset, .unset] [(.int (8304 : Int32)), (.int (17 : Int32)), (.ref c1), (.ref c1)]))
    obtain ⟨T19, h19, X19, e19, W19, A_19, st19⟩ := saI X18 hx hZ e18 A_18 (rfl : stx [(65 : Int32), (90 : Int32), (95 : Int32), (97 : Int32), (122 : Int32), (192 : Int32), (214 : Int32), (216 : Int32), (246 : Int32), (248 : Int32), (767 : Int32), (880 : Int32), (893 : Int32), (895 : Int32), (8191 : Int32), (8204 : Int32), (8205 : Int32), (0 : Int32), (0 : Int32), (0 : Int32), (0 : Int32), (0 : Int32), (0 : Int32), (0 : Int32), (0 : Int32), (0 : Int32), (0 : Int32), (0 : Int32), (0 : Int32)] (17 : Int32) (8304 : Int32) = some [(65 : Int32), (90 : Int32), (95 : Int32), (97 : Int32), (122 : Int32), (192 : Int32), (214 : Int32), (216 : Int32), (246 : Int32), (248 : Int32), (767 : Int32), (880 : Int32), (893 : Int32), (895 : Int32), (8191 : Int32), (8204 : Int32), (8205 : Int32), (8304 : Int32), (0 : Int32), (0 : Int32), (0 : Int32), (0 : Int32), (0 : Int32), (0 : Int32), (0 : Int32), (0 : Int32), (0 : Int32), (0 : Int32), (0 : Int32)]) (g := (mkF m 118 #[.val (.int x0), .val (.int x1), .val (.int x2), .unset, .unset, .unset, .unset] [(.int (8304 : Int32)), (.int (17 : Int32)), (.ref c1), (.ref c1)])) rfl rfl (hb hby at_118)
    refine OwnOut.go (fun t k => st19 _ k) ?_
    have N_19 := Fr.snoc X19 N_18 g_1
    have O_19 := O_18.wr W19 g_1
    have K_19 := K_18.wr W19 (Or.inr z_1)
    show OwnOut p e s below 16 128 _ (T19.setTop (mkF m 119 #[.val (.int x0), .val (.int x1), .val (.int x2), .unset, .unset, .unset, .unset] [(.ref c1)]))
    refine OwnOut.go (fun t k => XS.dup X19.here hx rfl (hb hby at_119) rfl rfl k) ?_
    show OwnOut p e s below 16 128 _ (T19.setTop (mkF m 120 #[.val (.int x0), .val (.int x1), .val (.int x2), .unset, .unset, .unset, .unset] [(.ref c1), (.ref c1)]))
    refine OwnOut.go (fun t k => XT.bipushV X19.here hx rfl (18 : Int32) (hb hby at_120) rfl k) ?_
    show OwnOut p e s below 16 128 _ (T19.setTop (mkF m 122 #[.val (.int x0), .val (.int x1), .val (.int x2), .unset, .unset, .unset, .unset] [(.int (18 : Int32)), (.ref c1), (.ref c1)]))
    refine OwnOut.go (fun t k => XT.sipushV X19.here hx rfl (8591 : Int32) (hb hby at_122) rfl k) ?_
    show OwnOut p e s below 16 128 _ (T19.setTop (mkF m 125 #[.val (.int x0), .val (.int x1), .val (.int x2), .unset, .unset, .unset, .unset] [(.int (8591 : Int32)), (.int (18 : Int32)), (.ref c1), (.ref c1)]))
    obtain ⟨T20, h20, X20, e20, W20, A_20, st20⟩ := saI X19 hx hZ e19 A_19 (rfl : stx [(65 : Int32), (90 : Int32), (95 : Int32), (97 : Int32), (122 : Int32), (192 : Int32), (214 : Int32), (216 : Int32), (246 : Int32), (248 : Int32), (767 : Int32), (880 : Int32), (893 : Int32), (895 : Int32), (8191 : Int32), (8204 : Int32), (8205 : Int32), (8304 : Int32), (0 : Int32), (0 : Int32), (0 : Int32), (0 : Int32), (0 : Int32), (0 : Int32), (0 : Int32), (0 : Int32), (0 : Int32), (0 : Int32), (0 : Int32)] (18 : Int32) (8591 : Int32) = some [(65 : Int32), (90 : Int32), (95 : Int32), (97 : Int32), (122 : Int32), (192 : Int32), (214 : Int32), (216 : Int32), (246 : Int32), (248 : Int32), (767 : Int32), (880 : Int32), (893 : Int32), (895 : Int32), (8191 : Int32), (8204 : Int32), (8205 : Int32), (8304 : Int32), (8591 : Int32), (0 : Int32), (0 : Int32), (0 : Int32), (0 : Int32), (0 : Int32), (0 : Int32), (0 : Int32), (0 : Int32), (0 : Int32), (0 : Int32)]) (g := (mkF m 125 #[.val (.int x0), .val (.int x1), .val (.int x2), .unset, .unset, .unset, .unset] [(.int (8591 : Int32)), (.int (18 : Int32)), (.ref c1), (.ref c1)])) rfl rfl (hb hby at_125)
    refine OwnOut.go (fun t k => st20 _ k) ?_
    have N_20 := Fr.snoc X20 N_19 g_1
    have O_20 := O_19.wr W20 g_1
    have K_20 := K_19.wr W20 (Or.inr z_1)
    show OwnOut p e s below 16 128 _ (T20.setTop (mkF m 126 #[.val (.int x0), .val (.int x1), .val (.int x2), .unset, .unset, .unset, .unset] [(.ref c1)]))
    refine OwnOut.go (fun t k => XS.dup X20.here hx rfl (hb hby at_126) rfl rfl k) ?_
    show OwnOut p e s below 16 128 _ (T20.setTop (mkF m 127 #[.val (.int x0), .val (.int x1), .val (.int x2), .unset, .unset, .unset, .unset] [(.ref c1), (.ref c1)]))
    refine OwnOut.go (fun t k => XT.bipushV X20.here hx rfl (19 : Int32) (hb hby at_127) rfl k) ?_
    show OwnOut p e s below 16 128 _ (T20.setTop (mkF m 129 #[.val (.int x0), .val (.int x1), .val (.int x2), .unset, .unset, .unset, .unset] [(.int (19 : Int32)), (.ref c1), (.ref c1)]))
    refine OwnOut.go (fun t k => XT.sipushV X20.here hx rfl (11264 : Int32) (hb hby at_129) rfl k) ?_
    show OwnOut p e s below 16 128 _ (T20.setTop (mkF m 132 #[.val (.int x0), .val (.int x1), .val (.int x2), .unset, .unset, .unset, .unset] [(.int (11264 : Int32)), (.int (19 : Int32)), (.ref c1), (.ref c1)]))
    obtain ⟨T21, h21, X21, e21, W21, A_21, st21⟩ := saI X20 hx hZ e20 A_20 (rfl : stx [(65 : Int32), (90 : Int32), (95 : Int32), (97 : Int32), (122 : Int32), (192 : Int32), (214 : Int32), (216 : Int32), (246 : Int32), (248 : Int32), (767 : Int32), (880 : Int32), (893 : Int32), (895 : Int32), (8191 : Int32), (8204 : Int32), (8205 : Int32), (8304 : Int32), (8591 : Int32), (0 : Int32), (0 : Int32), (0 : Int32), (0 : Int32), (0 : Int32), (0 : Int32), (0 : Int32), (0 : Int32), (0 : Int32), (0 : Int32)] (19 : Int32) (11264 : Int32) = some [(65 : Int32), (90 : Int32), (95 : Int32), (97 : Int32), (122 : Int32), (192 : Int32), (214 : Int32), (216 : Int32), (246 : Int32), (248 : Int32), (767 : Int32), (880 : Int32), (893 : Int32), (895 : Int32), (8191 : Int32), (8204 : Int32), (8205 : Int32), (8304 : Int32), (8591 : Int32), (11264 : Int32), (0 : Int32), (0 : Int32), (0 : Int32), (0 : Int32), (0 : Int32), (0 : Int32), (0 : Int32), (0 : Int32), (0 : Int32)]) (g := (mkF m 132 #[.val (.int x0), .val (.int x1), .val (.int x2), .unset, .unset, .unset, .unset] [(.int (11264 : Int32)), (.int (19 : Int32)), (.ref c1), (.ref c1)])) rfl rfl (hb hby at_132)
    refine OwnOut.go (fun t k => st21 _ k) ?_
    have N_21 := Fr.snoc X21 N_20 g_1
    have O_21 := O_20.wr W21 g_1
    have K_21 := K_20.wr W21 (Or.inr z_1)
    show OwnOut p e s below 16 128 _ (T21.setTop (mkF m 133 #[.val (.int x0), .val (.int x1), .val (.int x2), .unset, .unset, .unset, .unset] [(.ref c1)]))
    refine OwnOut.go (fun t k => XS.dup X21.here hx rfl (hb hby at_133) rfl rfl k) ?_
    show OwnOut p e s below 16 128 _ (T21.setTop (mkF m 134 #[.val (.int x0), .val (.int x1), .val (.int x2), .unset, .unset, .unset, .unset] [(.ref c1), (.ref c1)]))
    refine OwnOut.go (fun t k => XT.bipushV X21.here hx rfl (20 : Int32) (hb hby at_134) rfl k) ?_
    show OwnOut p e s below 16 128 _ (T21.setTop (mkF m 136 #[.val (.int x0), .val (.int x1), .val (.int x2), .unset, .unset, .unset, .unset] [(.int (20 : Int32)), (.ref c1), (.ref c1)]))
    refine OwnOut.go (fun t k => XT.sipushV X21.here hx rfl (12271 : Int32) (hb hby at_136) rfl k) ?_
    show OwnOut p e s below 16 128 _ (T21.setTop (mkF m 139 #[.val (.int x0), .val (.int x1), .val (.int x2), .unset, .unset, .unset, .unset] [(.int (12271 : Int32)), (.int (20 : Int32)), (.ref c1), (.ref c1)]))
    obtain ⟨T22, h22, X22, e22, W22, A_22, st22⟩ := saI X21 hx hZ e21 A_21 (rfl : stx [(65 : Int32), (90 : Int32), (95 : Int32), (97 : Int32), (122 : Int32), (192 : Int32), (214 : Int32), (216 : Int32), (246 : Int32), (248 : Int32), (767 : Int32), (880 : Int32), (893 : Int32), (895 : Int32), (8191 : Int32), (8204 : Int32), (8205 : Int32), (8304 : Int32), (8591 : Int32), (11264 : Int32), (0 : Int32), (0 : Int32), (0 : Int32), (0 : Int32), (0 : Int32), (0 : Int32), (0 : Int32), (0 : Int32), (0 : Int32)] (20 : Int32) (12271 : Int32) = some [(65 : Int32), (90 : Int32), (95 : Int32), (97 : Int32), (122 : Int32), (192 : Int32), (214 : Int32), (216 : Int32), (246 : Int32), (248 : Int32), (767 : Int32), (880 : Int32), (893 : Int32), (895 : Int32), (8191 : Int32), (8204 : Int32), (8205 : Int32), (8304 : Int32), (8591 : Int32), (11264 : Int32), (12271 : Int32), (0 : Int32), (0 : Int32), (0 : Int32), (0 : Int32), (0 : Int32), (0 : Int32), (0 : Int32), (0 : Int32)]) (g := (mkF m 139 #[.val (.int x0), .val (.int x1), .val (.int x2), .unset, .unset, .unset, .unset] [(.int (12271 : Int32)), (.int (20 : Int32)), (.ref c1), (.ref c1)])) rfl rfl (hb hby at_139)
    refine OwnOut.go (fun t k => st22 _ k) ?_
    have N_22 := Fr.snoc X22 N_21 g_1
    have O_22 := O_21.wr W22 g_1
    have K_22 := K_21.wr W22 (Or.inr z_1)
    show OwnOut p e s below 16 128 _ (T22.setTop (mkF m 140 #[.val (.int x0), .val (.int x1), .val (.int x2), .unset, .unset, .unset, .unset] [(.ref c1)]))
    refine OwnOut.go (fun t k => XS.dup X22.here hx rfl (hb hby at_140) rfl rfl k) ?_
    show OwnOut p e s below 16 128 _ (T22.setTop (mkF m 141 #[.val (.int x0), .val (.int x1), .val (.int x2), .unset, .unset, .unset, .unset] [(.ref c1), (.ref c1)]))
    refine OwnOut.go (fun t k => XT.bipushV X22.here hx rfl (21 : Int32) (hb hby at_141) rfl k) ?_
    show OwnOut p e s below 16 128 _ (T22.setTop (mkF m 143 #[.val (.int x0), .val (.int x1), .val (.int x2), .unset, .unset, .unset, .unset] [(.int (21 : Int32)), (.ref c1), (.ref c1)]))
    refine OwnOut.go (fun t k => XT.sipushV X22.here hx rfl (12289 : Int32) (hb hby at_143) rfl k) ?_
    show OwnOut p e s below 16 128 _ (T22.setTop (mkF m 146 #[.val (.int x0), .val (.int x1), .val (.int x2), .unset, .unset, .unset, .unset] [(.int (12289 : Int32)), (.int (21 : Int32)), (.ref c1), (.ref c1)]))
    obtain ⟨T23, h23, X23, e23, W23, A_23, st23⟩ := saI X22 hx hZ e22 A_22 (rfl : stx [(65 : Int32), (90 : Int32), (95 : Int32), (97 : Int32), (122 : Int32), (192 : Int32), (214 : Int32), (216 : Int32), (246 : Int32), (248 : Int32), (767 : Int32), (880 : Int32), (893 : Int32), (895 : Int32), (8191 : Int32), (8204 : Int32), (8205 : Int32), (8304 : Int32), (8591 : Int32), (11264 : Int32), (12271 : Int32), (0 : Int32), (0 : Int32), (0 : Int32), (0 : Int32), (0 : Int32), (0 : Int32), (0 : Int32), (0 : Int32)] (21 : Int32) (12289 : Int32) = some [(65 : Int32), (90 : Int32), (95 : Int32), (97 : Int32), (122 : Int32), (192 : Int32), (214 : Int32), (216 : Int32), (246 : Int32), (248 : Int32), (767 : Int32), (880 : Int32), (893 : Int32), (895 : Int32), (8191 : Int32), (8204 : Int32), (8205 : Int32), (8304 : Int32), (8591 : Int32), (11264 : Int32), (12271 : Int32), (12289 : Int32), (0 : Int32), (0 : Int32), (0 : Int32), (0 : Int32), (0 : Int32), (0 : Int32), (0 : Int32)]) (g := (mkF m 146 #[.val (.int x0), .val (.int x1), .val (.int x2), .unset, .unset, .unset, .unset] [(.int (12289 : Int32)), (.int (21 : Int32)), (.ref c1), (.ref c1)])) rfl rfl (hb hby at_146)
    refine OwnOut.go (fun t k => st23 _ k) ?_
    have N_23 := Fr.snoc X23 N_22 g_1
    have O_23 := O_22.wr W23 g_1
    have K_23 := K_22.wr W23 (Or.inr z_1)
    show OwnOut p e s below 16 128 _ (T23.setTop (mkF m 147 #[.val (.int x0), .val (.int x1), .val (.int x2), .unset, .unset, .unset, .unset] [(.ref c1)]))
    refine OwnOut.go (fun t k => XS.dup X23.here hx rfl (hb hby at_147) rfl rfl k) ?_
    show OwnOut p e s below 16 128 _ (T23.setTop (mkF m 148 #[.val (.int x0), .val (.int x1), .val (.int x2), .unset, .unset, .unset, .unset] [(.ref c1), (.ref c1)]))
    refine OwnOut.go (fun t k => XT.bipushV X23.here hx rfl (22 : Int32) (hb hby at_148) rfl k) ?_
    show OwnOut p e s below 16 128 _ (T23.setTop (mkF m 150 #[.val (.int x0), .val (.int x1), .val (.int x2), .unset, .unset, .unset, .unset] [(.int (22 : Int32)), (.ref c1), (.ref c1)]))
    refine OwnOut.go (fun t k => X23.ldcInt hx hown (mvT hZ (hw _ (List.mem_of_getElem? (i := 1) rfl))) (g := (mkF m 150 #[.val (.int x0), .val (.int x1), .val (.int x2), .unset, .unset, .unset, .unset] [(.int (22 : Int32)), (.ref c1), (.ref c1)])) rfl (hb hby at_150) _ k) ?_
    show OwnOut p e s below 16 128 _ (T23.setTop (mkF m 152 #[.val (.int x0), .val (.int x1), .val (.int x2), .unset, .unset, .unset, .unset] [(.int (55295 : Int32)), (.int (22 : Int32)), (.ref c1), (.ref c1)]))
    obtain ⟨T24, h24, X24, e24, W24, A_24, st24⟩ := saI X23 hx hZ e23 A_23 (rfl : stx [(65 : Int32), (90 : Int32), (95 : Int32), (97 : Int32), (122 : Int32), (192 : Int32), (214 : Int32), (216 : Int32), (246 : Int32), (248 : Int32), (767 : Int32), (880 : Int32), (893 : Int32), (895 : Int32), (8191 : Int32), (8204 : Int32), (8205 : Int32), (8304 : Int32), (8591 : Int32), (11264 : Int32), (12271 : Int32), (12289 : Int32), (0 : Int32), (0 : Int32), (0 : Int32), (0 : Int32), (0 : Int32), (0 : Int32), (0 : Int32)] (22 : Int32) (55295 : Int32) = some [(65 : Int32), (90 : Int32), (95 : Int32), (97 : Int32), (122 : Int32), (192 : Int32), (214 : Int32), (216 : Int32), (246 : Int32), (248 : Int32), (767 : Int32), (880 : Int32), (893 : Int32), (895 : Int32), (8191 : Int32), (8204 : Int32), (8205 : Int32), (8304 : Int32), (8591 : Int32), (11264 : Int32), (12271 : Int32), (12289 : Int32), (55295 : Int32), (0 : Int32), (0 : Int32), (0 : Int32), (0 : Int32), (0 : Int32), (0 : Int32)]) (g := (mkF m 152 #[.val (.int x0), .val (.int x1), .val (.int x2), .unset, .unset, .unset, .unset] [(.int (55295 : Int32)), (.int (22 : Int32)), (.ref c1), (.ref c1)])) rfl rfl (hb hby at_152)
    refine OwnOut.go (fun t k => st24 _ k) ?_
    have N_24 := Fr.snoc X24 N_23 g_1
    have O_24 := O_23.wr W24 g_1
    have K_24 := K_23.wr W24 (Or.inr z_1)
    show OwnOut p e s below 16 128 _ (T24.setTop (mkF m 153 #[.val (.int x0), .val (.int x1), .val (.int x2), .unset, .unset, .unset, .unset] [(.ref c1)]))
    refine OwnOut.go (fun t k => XS.dup X24.here hx rfl (hb hby at_153) rfl rfl k) ?_
    show OwnOut p e s below 16 128 _ (T24.setTop (mkF m 154 #[.val (.int x0), .val (.int x1), .val (.int x2), .unset, .unset, .unset, .unset] [(.ref c1), (.ref c1)]))
    refine OwnOut.go (fun t k => XT.bipushV X24.here hx rfl (23 : Int32) (hb hby at_154) rfl k) ?_
    show OwnOut p e s below 16 128 _ (T24.setTop (mkF m 156 #[.val (.int x0), .val (.int x1), .val (.int x2), .unset, .unset, .unset, .unset] [(.int (23 : Int32)), (.ref c1), (.ref c1)]))
    refine OwnOut.go (fun t k => X24.ldcInt hx hown (mvT hZ (hw _ (List.mem_of_getElem? (i := 2) rfl))) (g := (mkF m 156 #[.val (.int x0), .val (.int x1), .val (.int x2), .unset, .unset, .unset, .unset] [(.int (23 : Int32)), (.ref c1), (.ref c1)])) rfl (hb hby at_156) _ k) ?_
    show OwnOut p e s below 16 128 _ (T24.setTop (mkF m 158 #[.val (.int x0), .val (.int x1), .val (.int x2), .unset, .unset, .unset, .unset] [(.int (63744 : Int32)), (.int (23 : Int32)), (.ref c1), (.ref c1)]))
    obtain ⟨T25, h25, X25, e25, W25, A_25, st25⟩ := saI X24 hx hZ e24 A_24 (rfl : stx [(65 : Int32), (90 : Int32), (95 : Int32), (97 : Int32), (122 : Int32), (192 : Int32), (214 : Int32), (216 : Int32), (246 : Int32), (248 : Int32), (767 : Int32), (880 : Int32), (893 : Int32), (895 : Int32), (8191 : Int32), (8204 : Int32), (8205 : Int32), (8304 : Int32), (8591 : Int32), (11264 : Int32), (12271 : Int32), (12289 : Int32), (55295 : Int32), (0 : Int32), (0 : Int32), (0 : Int32), (0 : Int32), (0 : Int32), (0 : Int32)] (23 : Int32) (63744 : Int32) = some [(65 : Int32), (90 : Int32), (95 : Int32), (97 : Int32), (122 : Int32), (192 : Int32), (214 : Int32), (216 : Int32), (246 : Int32), (248 : Int32), (767 : Int32), (880 : Int32), (893 : Int32), (895 : Int32), (8191 : Int32), (8204 : Int32), (8205 : Int32), (8304 : Int32), (8591 : Int32), (11264 : Int32), (12271 : Int32), (12289 : Int32), (55295 : Int32), (63744 : Int32), (0 : Int32), (0 : Int32), (0 : Int32), (0 : Int32), (0 : Int32)]) (g := (mkF m 158 #[.val (.int x0), .val (.int x1), .val (.int x2), .unset, .unset, .unset, .unset] [(.int (63744 : Int32)), (.int (23 : Int32)), (.ref c1), (.ref c1)])) rfl rfl (hb hby at_158)
    refine OwnOut.go (fun t k => st25 _ k) ?_
    have N_25 := Fr.snoc X25 N_24 g_1
    have O_25 := O_24.wr W25 g_1
    have K_25 := K_24.wr W25 (Or.inr z_1)
    show OwnOut p e s below 16 128 _ (T25.setTop (mkF m 159 #[.val (.int x0), .val (.int x1), .val (.int x2), .unset, .unset, .unset, .unset] [(.ref c1)]))
    refine OwnOut.go (fun t k => XS.dup X25.here hx rfl (hb hby at_159) rfl rfl k) ?_
    show OwnOut p e s below 16 128 _ (T25.setTop (mkF m 160 #[.val (.int x0), .val (.int x1), .val (.int x2), .unset, .unset, .unset, .unset] [(.ref c1), (.ref c1)]))
    refine OwnOut.go (fun t k => XT.bipushV X25.here hx rfl (24 : Int32) (hb hby at_160) rfl k) ?_
    show OwnOut p e s below 16 128 _ (T25.setTop (mkF m 162 #[.val (.int x0), .val (.int x1), .val (.int x2), .unset, .unset, .unset, .unset] [(.int (24 : Int32)), (.ref c1), (.ref c1)]))
    refine OwnOut.go (fun t k => X25.ldcInt hx hown (mvT hZ (hw _ (List.mem_of_getElem? (i := 3) rfl))) (g := (mkF m 162 #[.val (.int x0), .val (.int x1), .val (.int x2), .unset, .unset, .unset, .unset] [(.int (24 : Int32)), (.ref c1), (.ref c1)])) rfl (hb hby at_162) _ k) ?_
    show OwnOut p e s below 16 128 _ (T25.setTop (mkF m 164 #[.val (.int x0), .val (.int x1), .val (.int x2), .unset, .unset, .unset, .unset] [(.int (64975 : Int32)), (.int (24 : Int32)), (.ref c1), (.ref c1)]))
    obtain ⟨T26, h26, X26, e26, W26, A_26, st26⟩ := saI X25 hx hZ e25 A_25 (rfl : stx [(65 : Int32), (90 : Int32), (95 : Int32), (97 : Int32), (122 : Int32), (192 : Int32), (214 : Int32), (216 : Int32), (246 : Int32), (248 : Int32), (767 : Int32), (880 : Int32), (893 : Int32), (895 : Int32), (8191 : Int32), (8204 : Int32), (8205 : Int32), (8304 : Int32), (8591 : Int32), (11264 : Int32), (12271 : Int32), (12289 : Int32), (55295 : Int32), (63744 : Int32), (0 : Int32), (0 : Int32), (0 : Int32), (0 : Int32), (0 : Int32)] (24 : Int32) (64975 : Int32) = some [(65 : Int32), (90 : Int32), (95 : Int32), (97 : Int32), (122 : Int32), (192 : Int32), (214 : Int32), (216 : Int32), (246 : Int32), (248 : Int32), (767 : Int32), (880 : Int32), (893 : Int32), (895 : Int32), (8191 : Int32), (8204 : Int32), (8205 : Int32), (8304 : Int32), (8591 : Int32), (11264 : Int32), (12271 : Int32), (12289 : Int32), (55295 : Int32), (63744 : Int32), (64975 : Int32), (0 : Int32), (0 : Int32), (0 : Int32), (0 : Int32)]) (g := (mkF m 164 #[.val (.int x0), .val (.int x1), .val (.int x2), .unset, .unset, .unset, .unset] [(.int (64975 : Int32)), (.int (24 : Int32)), (.ref c1), (.ref c1)])) rfl rfl (hb hby at_164)
    refine OwnOut.go (fun t k => st26 _ k) ?_
    have N_26 := Fr.snoc X26 N_25 g_1
    have O_26 := O_25.wr W26 g_1
    have K_26 := K_25.wr W26 (Or.inr z_1)
    show OwnOut p e s below 16 128 _ (T26.setTop (mkF m 165 #[.val (.int x0), .val (.int x1), .val (.int x2), .unset, .unset, .unset, .unset] [(.ref c1)]))
    refine OwnOut.go (fun t k => XS.dup X26.here hx rfl (hb hby at_165) rfl rfl k) ?_
    show OwnOut p e s below 16 128 _ (T26.setTop (mkF m 166 #[.val (.int x0), .val (.int x1), .val (.int x2), .unset, .unset, .unset, .unset] [(.ref c1), (.ref c1)]))
    refine OwnOut.go (fun t k => XT.bipushV X26.here hx rfl (25 : Int32) (hb hby at_166) rfl k) ?_
    show OwnOut p e s below 16 128 _ (T26.setTop (mkF m 168 #[.val (.int x0), .val (.int x1), .val (.int x2), .unset, .unset, .unset, .unset] [(.int (25 : Int32)), (.ref c1), (.ref c1)]))
    refine OwnOut.go (fun t k => X26.ldcInt hx hown (mvT hZ (hw _ (List.mem_of_getElem? (i := 4) rfl))) (g := (mkF m 168 #[.val (.int x0), .val (.int x1), .val (.int x2), .unset, .unset, .unset, .unset] [(.int (25 : Int32)), (.ref c1), (.ref c1)])) rfl (hb hby at_168) _ k) ?_
    show OwnOut p e s below 16 128 _ (T26.setTop (mkF m 170 #[.val (.int x0), .val (.int x1), .val (.int x2), .unset, .unset, .unset, .unset] [(.int (65008 : Int32)), (.int (25 : Int32)), (.ref c1), (.ref c1)]))
    obtain ⟨T27, h27, X27, e27, W27, A_27, st27⟩ := saI X26 hx hZ e26 A_26 (rfl : stx [(65 : Int32), (90 : Int32), (95 : Int32), (97 : Int32), (122 : Int32), (192 : Int32), (214 : Int32), (216 : Int32), (246 : Int32), (248 : Int32), (767 : Int32), (880 : Int32), (893 : Int32), (895 : Int32), (8191 : Int32), (8204 : Int32), (8205 : Int32), (8304 : Int32), (8591 : Int32), (11264 : Int32), (12271 : Int32), (12289 : Int32), (55295 : Int32), (63744 : Int32), (64975 : Int32), (0 : Int32), (0 : Int32), (0 : Int32), (0 : Int32)] (25 : Int32) (65008 : Int32) = some [(65 : Int32), (90 : Int32), (95 : Int32), (97 : Int32), (122 : Int32), (192 : Int32), (214 : Int32), (216 : Int32), (246 : Int32), (248 : Int32), (767 : Int32), (880 : Int32), (893 : Int32), (895 : Int32), (8191 : Int32), (8204 : Int32), (8205 : Int32), (8304 : Int32), (8591 : Int32), (11264 : Int32), (12271 : Int32), (12289 : Int32), (55295 : Int32), (63744 : Int32), (64975 : Int32), (65008 : Int32), (0 : Int32), (0 : Int32), (0 : Int32)]) (g := (mkF m 170 #[.val (.int x0), .val (.int x1), .val (.int x2), .unset, .unset, .unset, .unset] [(.int (65008 : Int32)), (.int (25 : Int32)), (.ref c1), (.ref c1)])) rfl rfl (hb hby at_170)
    refine OwnOut.go (fun t k => st27 _ k) ?_
    have N_27 := Fr.snoc X27 N_26 g_1
    have O_27 := O_26.wr W27 g_1
    have K_27 := K_26.wr W27 (Or.inr z_1)
    show OwnOut p e s below 16 128 _ (T27.setTop (mkF m 171 #[.val (.int x0), .val (.int x1), .val (.int x2), .unset, .unset, .unset, .unset] [(.ref c1)]))
    refine OwnOut.go (fun t k => XS.dup X27.here hx rfl (hb hby at_171) rfl rfl k) ?_
    show OwnOut p e s below 16 128 _ (T27.setTop (mkF m 172 #[.val (.int x0), .val (.int x1), .val (.int x2), .unset, .unset, .unset, .unset] [(.ref c1), (.ref c1)]))
    refine OwnOut.go (fun t k => XT.bipushV X27.here hx rfl (26 : Int32) (hb hby at_172) rfl k) ?_
    show OwnOut p e s below 16 128 _ (T27.setTop (mkF m 174 #[.val (.int x0), .val (.int x1), .val (.int x2), .unset, .unset, .unset, .unset] [(.int (26 : Int32)), (.ref c1), (.ref c1)]))
    refine OwnOut.go (fun t k => X27.ldcInt hx hown (mvT hZ (hw _ (List.mem_of_getElem? (i := 5) rfl))) (g := (mkF m 174 #[.val (.int x0), .val (.int x1), .val (.int x2), .unset, .unset, .unset, .unset] [(.int (26 : Int32)), (.ref c1), (.ref c1)])) rfl (hb hby at_174) _ k) ?_
    show OwnOut p e s below 16 128 _ (T27.setTop (mkF m 176 #[.val (.int x0), .val (.int x1), .val (.int x2), .unset, .unset, .unset, .unset] [(.int (65533 : Int32)), (.int (26 : Int32)), (.ref c1), (.ref c1)]))
    obtain ⟨T28, h28, X28, e28, W28, A_28, st28⟩ := saI X27 hx hZ e27 A_27 (rfl : stx [(65 : Int32), (90 : Int32), (95 : Int32), (97 : Int32), (122 : Int32), (192 : Int32), (214 : Int32), (216 : Int32), (246 : Int32), (248 : Int32), (767 : Int32), (880 : Int32), (893 : Int32), (895 : Int32), (8191 : Int32), (8204 : Int32), (8205 : Int32), (8304 : Int32), (8591 : Int32), (11264 : Int32), (12271 : Int32), (12289 : Int32), (55295 : Int32), (63744 : Int32), (64975 : Int32), (65008 : Int32), (0 : Int32), (0 : Int32), (0 : Int32)] (26 : Int32) (65533 : Int32) = some [(65 : Int32), (90 : Int32), (95 : Int32), (97 : Int32), (122 : Int32), (192 : Int32), (214 : Int32), (216 : Int32), (246 : Int32), (248 : Int32), (767 : Int32), (880 : Int32), (893 : Int32), (895 : Int32), (8191 : Int32), (8204 : Int32), (8205 : Int32), (8304 : Int32), (8591 : Int32), (11264 : Int32), (12271 : Int32), (12289 : Int32), (55295 : Int32), (63744 : Int32), (64975 : Int32), (65008 : Int32), (65533 : Int32), (0 : Int32), (0 : Int32)]) (g := (mkF m 176 #[.val (.int x0), .val (.int x1), .val (.int x2), .unset, .unset, .unset, .unset] [(.int (65533 : Int32)), (.int (26 : Int32)), (.ref c1), (.ref c1)])) rfl rfl (hb hby at_176)
    refine OwnOut.go (fun t k => st28 _ k) ?_
    have N_28 := Fr.snoc X28 N_27 g_1
    have O_28 := O_27.wr W28 g_1
    have K_28 := K_27.wr W28 (Or.inr z_1)
    show OwnOut p e s below 16 128 _ (T28.setTop (mkF m 177 #[.val (.int x0), .val (.int x1), .val (.int x2), .unset, .unset, .unset, .unset] [(.ref c1)]))
    refine OwnOut.go (fun t k => XS.dup X28.here hx rfl (hb hby at_177) rfl rfl k) ?_
    show OwnOut p e s below 16 128 _ (T28.setTop (mkF m 178 #[.val (.int x0), .val (.int x1), .val (.int x2), .unset, .unset, .unset, .unset] [(.ref c1), (.ref c1)]))
    refine OwnOut.go (fun t k => XT.bipushV X28.here hx rfl (27 : Int32) (hb hby at_178) rfl k) ?_
    show OwnOut p e s below 16 128 _ (T28.setTop (mkF m 180 #[.val (.int x0), .val (.int x1), .val (.int x2), .unset, .unset, .unset, .unset] [(.int (27 : Int32)), (.ref c1), (.ref c1)]))
    refine OwnOut.go (fun t k => X28.ldcInt hx hown (mvT hZ (hw _ (List.mem_of_getElem? (i := 6) rfl))) (g := (mkF m 180 #[.val (.int x0), .val (.int x1), .val (.int x2), .unset, .unset, .unset, .unset] [(.int (27 : Int32)), (.ref c1), (.ref c1)])) rfl (hb hby at_180) _ k) ?_
    show OwnOut p e s below 16 128 _ (T28.setTop (mkF m 182 #[.val (.int x0), .val (.int x1), .val (.int x2), .unset, .unset, .unset, .unset] [(.int (65536 : Int32)), (.int (27 : Int32)), (.ref c1), (.ref c1)]))
    obtain ⟨T29, h29, X29, e29, W29, A_29, st29⟩ := saI X28 hx hZ e28 A_28 (rfl : stx [(65 : Int32), (90 : Int32), (95 : Int32), (97 : Int32), (122 : Int32), (192 : Int32), (214 : Int32), (216 : Int32), (246 : Int32), (248 : Int32), (767 : Int32), (880 : Int32), (893 : Int32), (895 : Int32), (8191 : Int32), (8204 : Int32), (8205 : Int32), (8304 : Int32), (8591 : Int32), (11264 : Int32), (12271 : Int32), (12289 : Int32), (55295 : Int32), (63744 : Int32), (64975 : Int32), (65008 : Int32), (65533 : Int32), (0 : Int32), (0 : Int32)] (27 : Int32) (65536 : Int32) = some [(65 : Int32), (90 : Int32), (95 : Int32), (97 : Int32), (122 : Int32), (192 : Int32), (214 : Int32), (216 : Int32), (246 : Int32), (248 : Int32), (767 : Int32), (880 : Int32), (893 : Int32), (895 : Int32), (8191 : Int32), (8204 : Int32), (8205 : Int32), (8304 : Int32), (8591 : Int32), (11264 : Int32), (12271 : Int32), (12289 : Int32), (55295 : Int32), (63744 : Int32), (64975 : Int32), (65008 : Int32), (65533 : Int32), (65536 : Int32), (0 : Int32)]) (g := (mkF m 182 #[.val (.int x0), .val (.int x1), .val (.int x2), .unset, .unset, .unset, .unset] [(.int (65536 : Int32)), (.int (27 : Int32)), (.ref c1), (.ref c1)])) rfl rfl (hb hby at_182)
    refine OwnOut.go (fun t k => st29 _ k) ?_
    have N_29 := Fr.snoc X29 N_28 g_1
    have O_29 := O_28.wr W29 g_1
    have K_29 := K_28.wr W29 (Or.inr z_1)
    show OwnOut p e s below 16 128 _ (T29.setTop (mkF m 183 #[.val (.int x0), .val (.int x1), .val (.int x2), .unset, .unset, .unset, .unset] [(.ref c1)]))
    refine OwnOut.go (fun t k => XS.dup X29.here hx rfl (hb hby at_183) rfl rfl k) ?_
    show OwnOut p e s below 16 128 _ (T29.setTop (mkF m 184 #[.val (.int x0), .val (.int x1), .val (.int x2), .unset, .unset, .unset, .unset] [(.ref c1), (.ref c1)]))
    refine OwnOut.go (fun t k => XT.bipushV X29.here hx rfl (28 : Int32) (hb hby at_184) rfl k) ?_
    show OwnOut p e s below 16 128 _ (T29.setTop (mkF m 186 #[.val (.int x0), .val (.int x1), .val (.int x2), .unset, .unset, .unset, .unset] [(.int (28 : Int32)), (.ref c1), (.ref c1)]))
    refine OwnOut.go (fun t k => X29.ldcInt hx hown (mvT hZ (hw _ (List.mem_of_getElem? (i := 7) rfl))) (g := (mkF m 186 #[.val (.int x0), .val (.int x1), .val (.int x2), .unset, .unset, .unset, .unset] [(.int (28 : Int32)), (.ref c1), (.ref c1)])) rfl (hb hby at_186) _ k) ?_
    show OwnOut p e s below 16 128 _ (T29.setTop (mkF m 188 #[.val (.int x0), .val (.int x1), .val (.int x2), .unset, .unset, .unset, .unset] [(.int (983039 : Int32)), (.int (28 : Int32)), (.ref c1), (.ref c1)]))
    obtain ⟨T30, h30, X30, e30, W30, A_30, st30⟩ := saI X29 hx hZ e29 A_29 (rfl : stx [(65 : Int32), (90 : Int32), (95 : Int32), (97 : Int32), (122 : Int32), (192 : Int32), (214 : Int32), (216 : Int32), (246 : Int32), (248 : Int32), (767 : Int32), (880 : Int32), (893 : Int32), (895 : Int32), (8191 : Int32), (8204 : Int32), (8205 : Int32), (8304 : Int32), (8591 : Int32), (11264 : Int32), (12271 : Int32), (12289 : Int32), (55295 : Int32), (63744 : Int32), (64975 : Int32), (65008 : Int32), (65533 : Int32), (65536 : Int32), (0 : Int32)] (28 : Int32) (983039 : Int32) = some [(65 : Int32), (90 : Int32), (95 : Int32), (97 : Int32), (122 : Int32), (192 : Int32), (214 : Int32), (216 : Int32), (246 : Int32), (248 : Int32), (767 : Int32), (880 : Int32), (893 : Int32), (895 : Int32), (8191 : Int32), (8204 : Int32), (8205 : Int32), (8304 : Int32), (8591 : Int32), (11264 : Int32), (12271 : Int32), (12289 : Int32), (55295 : Int32), (63744 : Int32), (64975 : Int32), (65008 : Int32), (65533 : Int32), (65536 : Int32), (983039 : Int32)]) (g := (mkF m 188 #[.val (.int x0), .val (.int x1), .val (.int x2), .unset, .unset, .unset, .unset] [(.int (983039 : Int32)), (.int (28 : Int32)), (.ref c1), (.ref c1)])) rfl rfl (hb hby at_188)
    refine OwnOut.go (fun t k => st30 _ k) ?_
    have N_30 := Fr.snoc X30 N_29 g_1
    have O_30 := O_29.wr W30 g_1
    have K_30 := K_29.wr W30 (Or.inr z_1)
    show OwnOut p e s below 16 128 _ (T30.setTop (mkF m 189 #[.val (.int x0), .val (.int x1), .val (.int x2), .unset, .unset, .unset, .unset] [(.ref c1)]))
    refine OwnOut.go (fun t k => XS.astoreN X30.here hx rfl (hb hby at_189) rfl rfl (l' := #[.val (.int x0), .val (.int x1), .val (.int x2), .val (.ref c1), .unset, .unset, .unset]) rfl k) ?_
    show OwnOut p e s below 16 128 _ (T30.setTop (mkF m 190 #[.val (.int x0), .val (.int x1), .val (.int x2), .val (.ref c1), .unset, .unset, .unset] []))
    refine OwnOut.go (fun t k => XS.aloadN X30.here hx rfl (hb hby at_190) rfl rfl k) ?_
    show OwnOut p e s below 16 128 _ (T30.setTop (mkF m 191 #[.val (.int x0), .val (.int x1), .val (.int x2), .val (.ref c1), .unset, .unset, .unset] [(.ref c1)]))
    refine OwnOut.go (fun t k => XS.iloadN X30.here hx rfl (hb hby at_191) rfl k) ?_
    show OwnOut p e s below 16 128 _ (T30.setTop (mkF m 192 #[.val (.int x0), .val (.int x1), .val (.int x2), .val (.ref c1), .unset, .unset, .unset] [(.int x1), (.ref c1)]))
    refine OwnOut.go (fun t k => X30.ldcInt hx hown (mvT hZ (hw _ (List.mem_of_getElem? (i := 8) rfl))) (g := (mkF m 192 #[.val (.int x0), .val (.int x1), .val (.int x2), .val (.ref c1), .unset, .unset, .unset] [(.int x1), (.ref c1)])) rfl (hb hby at_192) _ k) ?_
    show OwnOut p e s below 16 128 _ (T30.setTop (mkF m 194 #[.val (.int x0), .val (.int x1), .val (.int x2), .val (.ref c1), .unset, .unset, .unset] [(.int (2147483647 : Int32)), (.int x1), (.ref c1)]))
    refine OwnOut.go (fun t k => XS.iand X30.here hx rfl (hb hby at_194) rfl k) ?_
    show OwnOut p e s below 16 128 _ (T30.setTop (mkF m 195 #[.val (.int x0), .val (.int x1), .val (.int x2), .val (.ref c1), .unset, .unset, .unset] [(.int (x1 &&& (2147483647 : Int32))), (.ref c1)]))
    refine OwnOut.go (fun t k => XT.bipushV X30.here hx rfl (29 : Int32) (hb hby at_195) rfl k) ?_
    show OwnOut p e s below 16 128 _ (T30.setTop (mkF m 197 #[.val (.int x0), .val (.int x1), .val (.int x2), .val (.ref c1), .unset, .unset, .unset] [(.int (29 : Int32)), (.int (x1 &&& (2147483647 : Int32))), (.ref c1)]))
    refine OwnOut.go (fun t k => iremM X30 hx rfl (hb hby at_197) rfl (by decide) k) ?_
    show OwnOut p e s below 16 128 _ (T30.setTop (mkF m 198 #[.val (.int x0), .val (.int x1), .val (.int x2), .val (.ref c1), .unset, .unset, .unset] [(.int ((x1 &&& (2147483647 : Int32)) % (29 : Int32))), (.ref c1)]))
    obtain ⟨v31, hv31, hr⟩ := Option.bind_eq_some_iff.mp hr
    refine OwnOut.go (fun t k => ldI X30 hx hZ e30 A_30 hv31 (g := (mkF m 198 #[.val (.int x0), .val (.int x1), .val (.int x2), .val (.ref c1), .unset, .unset, .unset] [(.int ((x1 &&& (2147483647 : Int32)) % (29 : Int32))), (.ref c1)])) rfl rfl (hb hby at_198) t k) ?_
    show OwnOut p e s below 16 128 _ (T30.setTop (mkF m 199 #[.val (.int x0), .val (.int x1), .val (.int x2), .val (.ref c1), .unset, .unset, .unset] [(.int v31)]))
    refine OwnOut.go (fun t k => XS.iloadN X30.here hx rfl (hb hby at_199) rfl k) ?_
    show OwnOut p e s below 16 128 _ (T30.setTop (mkF m 200 #[.val (.int x0), .val (.int x1), .val (.int x2), .val (.ref c1), .unset, .unset, .unset] [(.int x2), (.int v31)]))
    refine OwnOut.go (fun t k => XT.iconstV X30.here hx rfl (3 : Int32) (hb hby at_200) rfl k) ?_
    show OwnOut p e s below 16 128 _ (T30.setTop (mkF m 201 #[.val (.int x0), .val (.int x1), .val (.int x2), .val (.ref c1), .unset, .unset, .unset] [(.int (3 : Int32)), (.int x2), (.int v31)]))
    refine OwnOut.go (fun t k => XS.iand X30.here hx rfl (hb hby at_201) rfl k) ?_
    show OwnOut p e s below 16 128 _ (T30.setTop (mkF m 202 #[.val (.int x0), .val (.int x1), .val (.int x2), .val (.ref c1), .unset, .unset, .unset] [(.int (x2 &&& (3 : Int32))), (.int v31)]))
    refine OwnOut.go (fun t k => XT.iconstV X30.here hx rfl (1 : Int32) (hb hby at_202) rfl k) ?_
    show OwnOut p e s below 16 128 _ (T30.setTop (mkF m 203 #[.val (.int x0), .val (.int x1), .val (.int x2), .val (.ref c1), .unset, .unset, .unset] [(.int (1 : Int32)), (.int (x2 &&& (3 : Int32))), (.int v31)]))
    refine OwnOut.go (fun t k => XS.isub X30.here hx rfl (hb hby at_203) rfl k) ?_
    show OwnOut p e s below 16 128 _ (T30.setTop (mkF m 204 #[.val (.int x0), .val (.int x1), .val (.int x2), .val (.ref c1), .unset, .unset, .unset] [(.int ((x2 &&& (3 : Int32)) - (1 : Int32))), (.int v31)]))
    refine OwnOut.go (fun t k => XS.iadd X30.here hx rfl (hb hby at_204) rfl k) ?_
    show OwnOut p e s below 16 128 _ (T30.setTop (mkF m 205 #[.val (.int x0), .val (.int x1), .val (.int x2), .val (.ref c1), .unset, .unset, .unset] [(.int (v31 + ((x2 &&& (3 : Int32)) - (1 : Int32))))]))
    refine OwnOut.go (fun t k => XS.istore X30.here hx rfl (hb hby at_205) rfl (l' := #[.val (.int x0), .val (.int x1), .val (.int x2), .val (.ref c1), .val (.int (v31 + ((x2 &&& (3 : Int32)) - (1 : Int32)))), .unset, .unset]) rfl k) ?_
    show OwnOut p e s below 16 128 _ (T30.setTop (mkF m 207 #[.val (.int x0), .val (.int x1), .val (.int x2), .val (.ref c1), .val (.int (v31 + ((x2 &&& (3 : Int32)) - (1 : Int32)))), .unset, .unset] []))
    refine OwnOut.go (fun t k => XS.iloadN X30.here hx rfl (hb hby at_207) rfl k) ?_
    show OwnOut p e s below 16 128 _ (T30.setTop (mkF m 208 #[.val (.int x0), .val (.int x1), .val (.int x2), .val (.ref c1), .val (.int (v31 + ((x2 &&& (3 : Int32)) - (1 : Int32)))), .unset, .unset] [(.int x0)]))
    obtain ⟨o32, ho32, hr⟩ := Option.bind_eq_some_iff.mp hr
    obtain ⟨r32, T32, L32, X32', hQ32, st32⟩ := callQ (W := 0) (rm := rx1) X30 hx hZ (y := (⟨"com/example/libnodeset/libnodeset/tree/XmlCharacters", "isNameStart", "(I)Z"⟩ : MethodName)) hown (hw _ (List.mem_of_getElem? (i := 9) rfl)) (hw _ (List.mem_of_getElem? (i := 10) rfl)) (hw _ (List.mem_of_getElem? (i := 11) rfl)) (hw _ (List.mem_of_getElem? (i := 12) rfl)) (by decide) (rm1 l Z a0 hw [] x0 h30 o32 ho32 ) (by decide) (by decide) (by decide) (by decide) e30 (g := (mkF m 208 #[.val (.int x0), .val (.int x1), .val (.int x2), .val (.ref c1), .val (.int (v31 + ((x2 &&& (3 : Int32)) - (1 : Int32)))), .unset, .unset] [(.int x0)])) rfl (by rw [hml]; rfl) (argsL := [(.int x0)]) (rest := []) (lenOf pd1 rfl) rfl (by show 2 * 0 + _ ≤ _; exact Nat.le_of_eq rfl) (hb hby at_208)
    obtain ⟨rfl, e32, rfl⟩ := hQ32
    rw [List.append_nil] at X32'
    have X32 : Stand p l e room_1 s m args below meth c T32 _ 1 29 := X32'
    refine OwnOut.go (fun t k => st32 _ k) ?_
    show OwnOut p e s below 16 128 _ (T32.setTop (mkF m 211 #[.val (.int x0), .val (.int x1), .val (.int x2), .val (.ref c1), .val (.int (v31 + ((x2 &&& (3 : Int32)) - (1 : Int32)))), .unset, .unset] [(.int o32)]))
    refine OwnOut.go (fun t k => XS.iloadN X32.here hx rfl (hb hby at_211) rfl k) ?_
    show OwnOut p e s below 16 128 _ (T32.setTop (mkF m 212 #[.val (.int x0), .val (.int x1), .val (.int x2), .val (.ref c1), .val (.int (v31 + ((x2 &&& (3 : Int32)) - (1 : Int32)))), .unset, .unset] [(.int x0), (.int o32)]))
    obtain ⟨o33, ho33, hr⟩ := Option.bind_eq_some_iff.mp hr
    obtain ⟨r33, T33, L33, X33', hQ33, st33⟩ := callQ (W := 1) (rm := rx2) X32 hx hZ (y := (⟨"com/example/libnodeset/libnodeset/tree/XmlCharactersIsNameStartPinLaw", "ref", "(I)Z"⟩ : MethodName)) hown (hw _ (List.mem_of_getElem? (i := 16) rfl)) (hw _ (List.mem_of_getElem? (i := 17) rfl)) (hw _ (List.mem_of_getElem? (i := 18) rfl)) (hw _ (List.mem_of_getElem? (i := 19) rfl)) (by decide) (rm2 l Z a0 hw [] x0 h30 o33 ho33 ) (by decide) (by decide) (by decide) (by decide) e32 (g := (mkF m 212 #[.val (.int x0), .val (.int x1), .val (.int x2), .val (.ref c1), .val (.int (v31 + ((x2 &&& (3 : Int32)) - (1 : Int32)))), .unset, .unset] [(.int x0), (.int o32)])) rfl (by rw [hml]; rfl) (argsL := [(.int x0)]) (rest := [(.int o32)]) (lenOf pd2 rfl) rfl (by show 2 * 0 + _ ≤ _; exact Nat.le_of_eq rfl) (hb hby at_212)
    obtain ⟨rfl, e33, rfl⟩ := hQ33
    rw [List.append_nil] at X33'
    have X33 : Stand p l e room_1 s m args below meth c T33 _ 1 29 := X33'
    refine OwnOut.go (fun t k => st33 _ k) ?_
    show OwnOut p e s below 16 128 _ (T33.setTop (mkF m 215 #[.val (.int x0), .val (.int x1), .val (.int x2), .val (.ref c1), .val (.int (v31 + ((x2 &&& (3 : Int32)) - (1 : Int32)))), .unset, .unset] [(.int o33), (.int o32)]))
    by_cases hc215 : o32 = o33
    · rw [if_pos hc215] at hr
      refine OwnOut.go (fun t k => XS.icmpNo X33.here hx rfl (hb hby at_215) rfl (XT.ii_ne_f hc215) k) ?_
      show OwnOut p e s below 16 128 _ (T33.setTop (mkF m 218 #[.val (.int x0), .val (.int x1), .val (.int x2), .val (.ref c1), .val (.int (v31 + ((x2 &&& (3 : Int32)) - (1 : Int32)))), .unset, .unset] []))
      refine OwnOut.go (fun t k => XT.iconstV X33.here hx rfl (1 : Int32) (hb hby at_218) rfl k) ?_
      show OwnOut p e s below 16 128 _ (T33.setTop (mkF m 219 #[.val (.int x0), .val (.int x1), .val (.int x2), .val (.ref c1), .val (.int (v31 + ((x2 &&& (3 : Int32)) - (1 : Int32)))), .unset, .unset] [(.int (1 : Int32))]))
      refine OwnOut.go (fun t k => XS.goto X33.here hx rfl (pc0 := 219) (pc' := 223) rfl (hb hby at_219) (by decide) (by decide) k) ?_
      show OwnOut p e s below 16 128 _ (T33.setTop (mkF m 223 #[.val (.int x0), .val (.int x1), .val (.int x2), .val (.ref c1), .val (.int (v31 + ((x2 &&& (3 : Int32)) - (1 : Int32)))), .unset, .unset] [(.int (1 : Int32))]))
      exact w0_223 ⟨hx, hZ, hw, hby, hml, hown, hret, hlk, hnm⟩  _ _ _ x0 x1 x2 (v31 + ((x2 &&& (3 : Int32)) - (1 : Int32))) (1 : Int32) c1 [(65 : Int32), (90 : Int32), (95 : Int32), (97 : Int32), (122 : Int32), (192 : Int32), (214 : Int32), (216 : Int32), (246 : Int32), (248 : Int32), (767 : Int32), (880 : Int32), (893 : Int32), (895 : Int32), (8191 : Int32), (8204 : Int32), (8205 : Int32), (8304 : Int32), (8591 : Int32), (11264 : Int32), (12271 : Int32), (12289 : Int32), (55295 : Int32), (63744 : Int32), (64975 : Int32), (65008 : Int32), (65533 : Int32), (65536 : Int32), (983039 : Int32)] _ hr X33 e33 N_30 O_30 K_30 A_30 g_1 z_1
    · rw [if_neg hc215] at hr
      refine OwnOut.go (fun t k => XS.icmpYes X33.here hx rfl (pc0 := 215) (pc' := 222) rfl (hb hby at_215) rfl (XT.ii_ne_t hc215) (by decide) (by decide) k) ?_
      show OwnOut p e s below 16 128 _ (T33.setTop (mkF m 222 #[.val (.int x0), .val (.int x1), .val (.int x2), .val (.ref c1), .val (.int (v31 + ((x2 &&& (3 : Int32)) - (1 : Int32)))), .unset, .unset] []))
      refine OwnOut.go (fun t k => XT.iconstV X33.here hx rfl (0 : Int32) (hb hby at_222) rfl k) ?_
      show OwnOut p e s below 16 128 _ (T33.setTop (mkF m 223 #[.val (.int x0), .val (.int x1), .val (.int x2), .val (.ref c1), .val (.int (v31 + ((x2 &&& (3 : Int32)) - (1 : Int32)))), .unset, .unset] [(.int (0 : Int32))]))
      exact w0_223 ⟨hx, hZ, hw, hby, hml, hown, hret, hlk, hnm⟩  _ _ _ x0 x1 x2 (v31 + ((x2 &&& (3 : Int32)) - (1 : Int32))) (0 : Int32) c1 [(65 : Int32), (90 : Int32), (95 : Int32), (97 : Int32), (122 : Int32), (192 : Int32), (214 : Int32), (216 : Int32), (246 : Int32), (248 : Int32), (767 : Int32), (880 : Int32), (893 : Int32), (895 : Int32), (8191 : Int32), (8204 : Int32), (8205 : Int32), (8304 : Int32), (8591 : Int32), (11264 : Int32), (12271 : Int32), (12289 : Int32), (55295 : Int32), (63744 : Int32), (64975 : Int32), (65008 : Int32), (65533 : Int32), (65536 : Int32), (983039 : Int32)] _ hr X33 e33 N_30 O_30 K_30 A_30 g_1 z_1
set_option maxRecDepth 65536 in
set_option maxHeartbeats 40000000 in
theorem rm0 (l : Launch) (Z : State) (a0 : Array Value) (hw : ∀ d ∈ tables_1, d.before a0 Z = true) (ws : List Jvm.Cond) (x0 : Int32) (x1 : Int32) (x2 : Int32) (h0 : Heap) (n0 : Nat) (o : Int32) (hr : f0 x0 x1 x2 = some o) (O0 : Old Z n0 h0) :
    MetFree l x (head1 (Jvm.Cond.code x code maxLocals ret :: ws) room_1) (fun a U => a = #[(.int x0), (.int x1), (.int x2)] ∧ Z.Warmed39 U.vm ∧ U.heap = h0) (fun _ _ _ _ _ => True) (fun _ U o' U' => ∃ v L, o' = .returned v ∧ Q0 Z x0 x1 x2 h0 n0 o v U'.heap L ∧ FrameEnd U o' U' L 16 128) := by
  refine MetFree.of_bodySF (plainFor_of_name pn0) hisR ?_
  intro p e s m args below meth c s₁ Bd hml0 hP hK
  obtain ⟨rfl, hZ, hh⟩ := hP
  have X0 : Stand p l e room_1 s m #[(.int x0), (.int x1), (.int x2)] below meth c s₁ [] 0 0 := Stand.of_body Bd
  have e0 : s₁.heap = h0 := by rw [← hh, Bd.state]; rfl
  exact OwnOut.at (ef0 m x0 x1 x2) (w0_0 ⟨Bd.exec, hZ, hw, Bd.bytes, hml0, findClass_of_methodNamed Bd.named, Bd.returns, Bd.notSynchronized, (name_of_methodNamed Bd.named Bd.method).1⟩ _ _ _ x0 x1 x2 o hr X0 e0 (Fr.nil n0) O0 (Keep.refl _ _) )
theorem own_179 (c : Int32) : f1_179 c = some (if (65536 ≤ c.toInt ∧ c.toInt ≤ 983039) then 1 else 0) := by
  simp only [f1_179, Int32.lt_iff_toInt_lt, ← Int32.toInt_inj, Int32.reduceToInt]
  generalize c.toInt = n
  repeat' split
  all_goals first | rfl | (exfalso; omega)
theorem own_167 (c : Int32) : f1_167 c = some (if (65008 ≤ c.toInt ∧ c.toInt ≤ 65533) ∨ (65536 ≤ c.toInt ∧ c.toInt ≤ 983039) then 1 else 0) := by
  simp only [f1_167, own_179, Int32.lt_iff_toInt_lt, ← Int32.toInt_inj, Int32.reduceToInt]
  generalize c.toInt = n
  repeat' split
  all_goals first | rfl | (exfalso; omega)
theorem own_155 (c : Int32) : f1_155 c = some (if (63744 ≤ c.toInt ∧ c.toInt ≤ 64975) ∨ (65008 ≤ c.toInt ∧ c.toInt ≤ 65533) ∨ (65536 ≤ c.toInt ∧ c.toInt ≤ 983039) then 1 else 0) := by
  simp only [f1_155, own_167, Int32.lt_iff_toInt_lt, ← Int32.toInt_inj, Int32.reduceToInt]
  generalize c.toInt = n
  repeat' split
  all_goals first | rfl | (exfalso; omega)
theorem own_142 (c : Int32) : f1_142 c = some (if (12289 ≤ c.toInt ∧ c.toInt ≤ 55295) ∨ (63744 ≤ c.toInt ∧ c.toInt ≤ 64975) ∨ (65008 ≤ c.toInt ∧ c.toInt ≤ 65533) ∨ (65536 ≤ c.toInt ∧ c.toInt ≤ 983039) then 1 else 0) := by
  simp only [f1_142, own_155, Int32.lt_iff_toInt_lt, ← Int32.toInt_inj, Int32.reduceToInt]
  generalize c.toInt = n
  repeat' split
  all_goals first | rfl | (exfalso; omega)
theorem own_128 (c : Int32) : f1_128 c = some (if (11264 ≤ c.toInt ∧ c.toInt ≤ 12271) ∨ (12289 ≤ c.toInt ∧ c.toInt ≤ 55295) ∨ (63744 ≤ c.toInt ∧ c.toInt ≤ 64975) ∨ (65008 ≤ c.toInt ∧ c.toInt ≤ 65533) ∨ (65536 ≤ c.toInt ∧ c.toInt ≤ 983039) then 1 else 0) := by
  simp only [f1_128, own_142, Int32.lt_iff_toInt_lt, ← Int32.toInt_inj, Int32.reduceToInt]
  generalize c.toInt = n
  repeat' split
  all_goals first | rfl | (exfalso; omega)
theorem own_114 (c : Int32) : f1_114 c = some (if (8304 ≤ c.toInt ∧ c.toInt ≤ 8591) ∨ (11264 ≤ c.toInt ∧ c.toInt ≤ 12271) ∨ (12289 ≤ c.toInt ∧ c.toInt ≤ 55295) ∨ (63744 ≤ c.toInt ∧ c.toInt ≤ 64975) ∨ (65008 ≤ c.toInt ∧ c.toInt ≤ 65533) ∨ (65536 ≤ c.toInt ∧ c.toInt ≤ 983039) then 1 else 0) := by
  simp only [f1_114, own_128, Int32.lt_iff_toInt_lt, ← Int32.toInt_inj, Int32.reduceToInt]
  generalize c.toInt = n
  repeat' split
  all_goals first | rfl | (exfalso; omega)
theorem own_100 (c : Int32) : f1_100 c = some (if (8204 ≤ c.toInt ∧ c.toInt ≤ 8205) ∨ (8304 ≤ c.toInt ∧ c.toInt ≤ 8591) ∨ (11264 ≤ c.toInt ∧ c.toInt ≤ 12271) ∨ (12289 ≤ c.toInt ∧ c.toInt ≤ 55295) ∨ (63744 ≤ c.toInt ∧ c.toInt ≤ 64975) ∨ (65008 ≤ c.toInt ∧ c.toInt ≤ 65533) ∨ (65536 ≤ c.toInt ∧ c.toInt ≤ 983039) then 1 else 0) := by
  simp only [f1_100, own_114, Int32.lt_iff_toInt_lt, ← Int32.toInt_inj, Int32.reduceToInt]
  generalize c.toInt = n
  repeat' split
  all_goals first | rfl | (exfalso; omega)
theorem own_86 (c : Int32) : f1_86 c = some (if (895 ≤ c.toInt ∧ c.toInt ≤ 8191) ∨ (8204 ≤ c.toInt ∧ c.toInt ≤ 8205) ∨ (8304 ≤ c.toInt ∧ c.toInt ≤ 8591) ∨ (11264 ≤ c.toInt ∧ c.toInt ≤ 12271) ∨ (12289 ≤ c.toInt ∧ c.toInt ≤ 55295) ∨ (63744 ≤ c.toInt ∧ c.toInt ≤ 64975) ∨ (65008 ≤ c.toInt ∧ c.toInt ≤ 65533) ∨ (65536 ≤ c.toInt ∧ c.toInt ≤ 983039) then 1 else 0) := by
  simp only [f1_86, own_100, Int32.lt_iff_toInt_lt, ← Int32.toInt_inj, Int32.reduceToInt]
  generalize c.toInt = n
  repeat' split
  all_goals first | rfl | (exfalso; omega)
theorem own_72 (c : Int32) : f1_72 c = some (if (880 ≤ c.toInt ∧ c.toInt ≤ 893) ∨ (895 ≤ c.toInt ∧ c.toInt ≤ 8191) ∨ (8204 ≤ c.toInt ∧ c.toInt ≤ 8205) ∨ (8304 ≤ c.toInt ∧ c.toInt ≤ 8591) ∨ (11264 ≤ c.toInt ∧ c.toInt ≤ 12271) ∨ (12289 ≤ c.toInt ∧ c.toInt ≤ 55295) ∨ (63744 ≤ c.toInt ∧ c.toInt ≤ 64975) ∨ (65008 ≤ c.toInt ∧ c.toInt ≤ 65533) ∨ (65536 ≤ c.toInt ∧ c.toInt ≤ 983039) then 1 else 0) := by
  simp only [f1_72, own_86, Int32.lt_iff_toInt_lt, ← Int32.toInt_inj, Int32.reduceToInt]
  generalize c.toInt = n
  repeat' split
  all_goals first | rfl | (exfalso; omega)
theorem own_58 (c : Int32) : f1_58 c = some (if (248 ≤ c.toInt ∧ c.toInt ≤ 767) ∨ (880 ≤ c.toInt ∧ c.toInt ≤ 893) ∨ (895 ≤ c.toInt ∧ c.toInt ≤ 8191) ∨ (8204 ≤ c.toInt ∧ c.toInt ≤ 8205) ∨ (8304 ≤ c.toInt ∧ c.toInt ≤ 8591) ∨ (11264 ≤ c.toInt ∧ c.toInt ≤ 12271) ∨ (12289 ≤ c.toInt ∧ c.toInt ≤ 55295) ∨ (63744 ≤ c.toInt ∧ c.toInt ≤ 64975) ∨ (65008 ≤ c.toInt ∧ c.toInt ≤ 65533) ∨ (65536 ≤ c.toInt ∧ c.toInt ≤ 983039) then 1 else 0) := by
  simp only [f1_58, own_72, Int32.lt_iff_toInt_lt, ← Int32.toInt_inj, Int32.reduceToInt]
  generalize c.toInt = n
  repeat' split
  all_goals first | rfl | (exfalso; omega)
theorem own_44 (c : Int32) : f1_44 c = some (if (216 ≤ c.toInt ∧ c.toInt ≤ 246) ∨ (248 ≤ c.toInt ∧ c.toInt ≤ 767) ∨ (880 ≤ c.toInt ∧ c.toInt ≤ 893) ∨ (895 ≤ c.toInt ∧ c.toInt ≤ 8191) ∨ (8204 ≤ c.toInt ∧ c.toInt ≤ 8205) ∨ (8304 ≤ c.toInt ∧ c.toInt ≤ 8591) ∨ (11264 ≤ c.toInt ∧ c.toInt ≤ 12271) ∨ (12289 ≤ c.toInt ∧ c.toInt ≤ 55295) ∨ (63744 ≤ c.toInt ∧ c.toInt ≤ 64975) ∨ (65008 ≤ c.toInt ∧ c.toInt ≤ 65533) ∨ (65536 ≤ c.toInt ∧ c.toInt ≤ 983039) then 1 else 0) := by
  simp only [f1_44, own_58, Int32.lt_iff_toInt_lt, ← Int32.toInt_inj, Int32.reduceToInt]
  generalize c.toInt = n
  repeat' split
  all_goals first | rfl | (exfalso; omega)
theorem own_24 (c : Int32) : f1_24 c = some (if (95 ≤ c.toInt ∧ c.toInt ≤ 95) ∨ (192 ≤ c.toInt ∧ c.toInt ≤ 214) ∨ (216 ≤ c.toInt ∧ c.toInt ≤ 246) ∨ (248 ≤ c.toInt ∧ c.toInt ≤ 767) ∨ (880 ≤ c.toInt ∧ c.toInt ≤ 893) ∨ (895 ≤ c.toInt ∧ c.toInt ≤ 8191) ∨ (8204 ≤ c.toInt ∧ c.toInt ≤ 8205) ∨ (8304 ≤ c.toInt ∧ c.toInt ≤ 8591) ∨ (11264 ≤ c.toInt ∧ c.toInt ≤ 12271) ∨ (12289 ≤ c.toInt ∧ c.toInt ≤ 55295) ∨ (63744 ≤ c.toInt ∧ c.toInt ≤ 64975) ∨ (65008 ≤ c.toInt ∧ c.toInt ≤ 65533) ∨ (65536 ≤ c.toInt ∧ c.toInt ≤ 983039) then 1 else 0) := by
  simp only [f1_24, own_44, Int32.lt_iff_toInt_lt, ← Int32.toInt_inj, Int32.reduceToInt]
  generalize c.toInt = n
  repeat' split
  all_goals first | rfl | (exfalso; omega)
theorem own_12 (c : Int32) : f1_12 c = some (if (65 ≤ c.toInt ∧ c.toInt ≤ 90) ∨ (95 ≤ c.toInt ∧ c.toInt ≤ 95) ∨ (192 ≤ c.toInt ∧ c.toInt ≤ 214) ∨ (216 ≤ c.toInt ∧ c.toInt ≤ 246) ∨ (248 ≤ c.toInt ∧ c.toInt ≤ 767) ∨ (880 ≤ c.toInt ∧ c.toInt ≤ 893) ∨ (895 ≤ c.toInt ∧ c.toInt ≤ 8191) ∨ (8204 ≤ c.toInt ∧ c.toInt ≤ 8205) ∨ (8304 ≤ c.toInt ∧ c.toInt ≤ 8591) ∨ (11264 ≤ c.toInt ∧ c.toInt ≤ 12271) ∨ (12289 ≤ c.toInt ∧ c.toInt ≤ 55295) ∨ (63744 ≤ c.toInt ∧ c.toInt ≤ 64975) ∨ (65008 ≤ c.toInt ∧ c.toInt ≤ 65533) ∨ (65536 ≤ c.toInt ∧ c.toInt ≤ 983039) then 1 else 0) := by
  simp only [f1_12, own_24, Int32.lt_iff_toInt_lt, ← Int32.toInt_inj, Int32.reduceToInt]
  generalize c.toInt = n
  repeat' split
  all_goals first | rfl | (exfalso; omega)
theorem own_1 (c : Int32) : f1 c = some (if (97 ≤ c.toInt ∧ c.toInt ≤ 122) ∨ (65 ≤ c.toInt ∧ c.toInt ≤ 90) ∨ (95 ≤ c.toInt ∧ c.toInt ≤ 95) ∨ (192 ≤ c.toInt ∧ c.toInt ≤ 214) ∨ (216 ≤ c.toInt ∧ c.toInt ≤ 246) ∨ (248 ≤ c.toInt ∧ c.toInt ≤ 767) ∨ (880 ≤ c.toInt ∧ c.toInt ≤ 893) ∨ (895 ≤ c.toInt ∧ c.toInt ≤ 8191) ∨ (8204 ≤ c.toInt ∧ c.toInt ≤ 8205) ∨ (8304 ≤ c.toInt ∧ c.toInt ≤ 8591) ∨ (11264 ≤ c.toInt ∧ c.toInt ≤ 12271) ∨ (12289 ≤ c.toInt ∧ c.toInt ≤ 55295) ∨ (63744 ≤ c.toInt ∧ c.toInt ≤ 64975) ∨ (65008 ≤ c.toInt ∧ c.toInt ≤ 65533) ∨ (65536 ≤ c.toInt ∧ c.toInt ≤ 983039) then 1 else 0) := by
  simp only [f1, own_12, Int32.lt_iff_toInt_lt, ← Int32.toInt_inj, Int32.reduceToInt]
  generalize c.toInt = n
  repeat' split
  all_goals first | rfl | (exfalso; omega)
theorem own_in (c lo hi : Int32) : f3 c lo hi = some (if lo.toInt ≤ c.toInt ∧ c.toInt ≤ hi.toInt then 1 else 0) := by
  simp only [f3, Int32.lt_iff_toInt_lt]
  repeat' split
  all_goals first | rfl | (exfalso; omega)
theorem own_b (A : Prop) [Decidable A] : ((if A then (1 : Int32) else 0) = 0) = ¬ A := by
  by_cases h : A <;> simp [h]
theorem own_2 (c : Int32) : f2 c = some (if (97 ≤ c.toInt ∧ c.toInt ≤ 122) ∨ (65 ≤ c.toInt ∧ c.toInt ≤ 90) ∨ (95 ≤ c.toInt ∧ c.toInt ≤ 95) ∨ (192 ≤ c.toInt ∧ c.toInt ≤ 214) ∨ (216 ≤ c.toInt ∧ c.toInt ≤ 246) ∨ (248 ≤ c.toInt ∧ c.toInt ≤ 767) ∨ (880 ≤ c.toInt ∧ c.toInt ≤ 893) ∨ (895 ≤ c.toInt ∧ c.toInt ≤ 8191) ∨ (8204 ≤ c.toInt ∧ c.toInt ≤ 8205) ∨ (8304 ≤ c.toInt ∧ c.toInt ≤ 8591) ∨ (11264 ≤ c.toInt ∧ c.toInt ≤ 12271) ∨ (12289 ≤ c.toInt ∧ c.toInt ≤ 55295) ∨ (63744 ≤ c.toInt ∧ c.toInt ≤ 64975) ∨ (65008 ≤ c.toInt ∧ c.toInt ≤ 65533) ∨ (65536 ≤ c.toInt ∧ c.toInt ≤ 983039) then 1 else 0) := by
  simp only [f2, own_in, Option.bind_some, own_b]
  simp only [Int32.lt_iff_toInt_lt, ← Int32.toInt_inj (x := c), Int32.reduceToInt]
  generalize c.toInt = n
  have h : n < 65 ∨ (65 ≤ n ∧ n ≤ 90) ∨ (91 ≤ n ∧ n ≤ 94) ∨ (95 ≤ n ∧ n ≤ 95) ∨ (96 ≤ n ∧ n ≤ 96) ∨ (97 ≤ n ∧ n ≤ 122) ∨ (123 ≤ n ∧ n ≤ 191) ∨ (192 ≤ n ∧ n ≤ 214) ∨ (215 ≤ n ∧ n ≤ 215) ∨ (216 ≤ n ∧ n ≤ 246) ∨ (247 ≤ n ∧ n ≤ 247) ∨ (248 ≤ n ∧ n ≤ 767) ∨ (768 ≤ n ∧ n ≤ 879) ∨ (880 ≤ n ∧ n ≤ 893) ∨ (894 ≤ n ∧ n ≤ 894) ∨ (895 ≤ n ∧ n ≤ 8191) ∨ (8192 ≤ n ∧ n ≤ 8203) ∨ (8204 ≤ n ∧ n ≤ 8205) ∨ (8206 ≤ n ∧ n ≤ 8303) ∨ (8304 ≤ n ∧ n ≤ 8591) ∨ (8592 ≤ n ∧ n ≤ 11263) ∨ (11264 ≤ n ∧ n ≤ 12271) ∨ (12272 ≤ n ∧ n ≤ 12288) ∨ (12289 ≤ n ∧ n ≤ 55295) ∨ (55296 ≤ n ∧ n ≤ 63743) ∨ (63744 ≤ n ∧ n ≤ 64975) ∨ (64976 ≤ n ∧ n ≤ 65007) ∨ (65008 ≤ n ∧ n ≤ 65533) ∨ (65534 ≤ n ∧ n ≤ 65535) ∨ (65536 ≤ n ∧ n ≤ 983039) ∨ 983040 ≤ n := by omega
  rcases h with h | h | h | h | h | h | h | h | h | h | h | h | h | h | h | h | h | h | h | h | h | h | h | h | h | h | h | h | h | h | h <;> simp (disch := omega) only [if_pos, if_neg]
theorem own_243 : f0_243 1 1 = some 1 := by decide
theorem own_223 (c : Int32) : f0_223 c 1 = some 1 := by
  simp only [f0_223, own_1, own_2, Option.bind_some, if_true]
  exact own_243
theorem own_ld (xs : List Int32) (j : Int32) (h0 : 0 ≤ j.toInt) (h1 : j.toInt < xs.length) : ∃ v, ldx xs j = some v := by
  unfold ldx
  rw [if_neg (by rw [Int32.lt_iff_toInt_lt]; have : (0 : Int32).toInt = 0 := by decide
                 omega)]
  exact ⟨_, List.getElem?_eq_getElem (by show j.toInt.toNat < _; omega)⟩
theorem law_ok (a b c : Int32) : f0 a b c = some 1 := by
  have e1 : (b &&& 2147483647).toInt = b.toInt % (2 ^ 31 : Nat) := c_mask b 2147483647 31 (by decide) (by decide)
  have e2 := (c_irem (b &&& 2147483647) 29 29 (by decide)).1 (by omega)
  unfold f0
  obtain ⟨v, hv⟩ := own_ld [(65 : Int32), (90 : Int32), (95 : Int32), (97 : Int32), (122 : Int32), (192 : Int32), (214 : Int32), (216 : Int32), (246 : Int32), (248 : Int32), (767 : Int32), (880 : Int32), (893 : Int32), (895 : Int32), (8191 : Int32), (8204 : Int32), (8205 : Int32), (8304 : Int32), (8591 : Int32), (11264 : Int32), (12271 : Int32), (12289 : Int32), (55295 : Int32), (63744 : Int32), (64975 : Int32), (65008 : Int32), (65533 : Int32), (65536 : Int32), (983039 : Int32)] ((b &&& (2147483647 : Int32)) % (29 : Int32)) (by omega) (by show _ < 29; omega)
  rw [hv]
  simp only [own_1, own_2, Option.bind_some, if_true]
  exact own_223 _
set_option maxRecDepth 65536 in
set_option maxHeartbeats 40000000 in
theorem comes_1 {Post : Tables → Env → Array Value → State → Outcome → State → Prop} (hpost : ∀ tb e args s v u, (limb_1_1.after args s (.returned v) u = true ∧ limb_1_2.after args s (.returned v) u = true ∧ True) → FrameEnd s (.returned v) u (Jvm.fieldLocs frame_1_writes args s ++ Jvm.arrayLocs frame_1_arrays args s ++ Jvm.staticLocs frame_1_statics s) 16 128 → Post tb e args s (.returned v) u) :
    ArmFor flags0 classFile x code maxLocals ret World_1 tables_1 room_1 Calls_1 rest_1 Pre_1 Post := by
  intro l hfl _ _ p e ha hc hk s m args below hf hA hF happ hP
  obtain ⟨hcalls, hrest, hpre⟩ := hP
  obtain ⟨-, -, -, hnamed, -, -, -, hat⟩ := (Spec.applies_iff hf).mp happ
  obtain ⟨hg, hn⟩ := and_e (Cond.before_iff.mp (show (Jvm.Cond.and given_1 narrow_1).before args s = true from hpre))
  obtain ⟨g1, g2⟩ := and_e hg
  obtain ⟨g3, g4⟩ := and_e g2
  obtain ⟨g5, g6⟩ := and_e g4
  obtain ⟨w0, w1, w2, rfl⟩ : ∃ w0 w1 w2 : Value, args = #[w0, w1, w2] := by
    have hs : args.size = 3 := by simpa [Cond.value, given_1] using g1
    obtain ⟨L⟩ := args
    match L, hs with
    | [w0, w1, w2], _ => exact ⟨w0, w1, w2, rfl⟩
  have hw := fun d (hd : d ∈ tables_1) => atoms_spec (ws := Jvm.Cond.code x code maxLocals ret :: tables_1) hat d (List.mem_cons_of_mem _ hd)
  obtain ⟨i0, ei0⟩ := is_v g3
  obtain rfl : w0 = (.int i0) := Option.some.inj ei0
  obtain ⟨i1, ei1⟩ := is_v g5
  obtain rfl : w1 = (.int i1) := Option.some.inj ei1
  obtain ⟨i2, ei2⟩ := is_v g6
  obtain rfl : w2 = (.int i2) := Option.some.inj ei2
  obtain ⟨n, o, h1, h2, h3, _, L, rfl, ⟨rfl, N⟩, hq⟩ := rm0 l s _ hw tables_1 i0 i1 i2 s.heap s.heap.size 1 (law_ok i0 i1 i2) (Old.start s) p e ha hc hk s m _ below hf ((Spec.applies_iff_loose hf).mp happ).1 ⟨rfl, State.Warmed39.refl s, rfl⟩ trivial
  have hv : (1 : Int32) = 1 := rfl
  refine ⟨n, _, h1, h2, h3, hpost _ _ _ _ _ _ ⟨Cond.after_iff.mpr rfl, Cond.after_iff.mpr (eq_i res_at (Term.int_eval (1)) (congrArg Value.int hv)), trivial⟩ ⟨hq.1, hq.2.1, (hq.2.2.sift fun y hy => Or.inr (N y hy)).mono (by decide) (by decide)⟩⟩
theorem main_1_1 : Claimed_1_1 := comes_1 fun _ _ _ _ _ _ h hF => ⟨h.1, hF⟩
theorem main_1_2 : Claimed_1_2 := comes_1 fun _ _ _ _ _ _ h hF => ⟨h.2.1, hF⟩
end Jvm.Pilot.@@N@@
namespace Jvm.Pilot.@@N@@
open Jvm Jvm.ClassFile Sem Op Lib Jvm.Free Jvm.Stand Jvm.Pilot.@@N@@.Jvm.D
/-! MADE BY PROGRAM (witnessworld.py) out of the Statement's table words and the real class files: 9 classes; the members and pool entries that the words name. The judged class is class 1, her method 3. -/
namespace start1
open Jvm.ClassFile
def u (s : String) : CpInfo := .utf8 (stringToUtf16 s)
/-- a pool by its gaps: so many unusable entries, then the entry; so many at the end -/
def gap : Nat → List CpInfo → List CpInfo
  | 0, r => r
  | n + 1, r => .unusable :: gap n r
def poolList (es : List (Nat × CpInfo)) (last : Nat) : List CpInfo := es.foldr (fun e r => gap e.1 (e.2 :: r)) (gap last [])
def pool (es : List (Nat × CpInfo)) (last : Nat) : Array CpInfo := ⟨poolList es last⟩
def fileOf (pool : Array CpInfo) (this : Nat) (attrs : Array Attribute := #[]) (ms : Array MethodInfo := #[]) (fl : Nat := 33) (sup : Nat := 0) (ifs : Array Nat := #[]) (fds : Array FieldInfo := #[]) : ClassFile where
  minorVersion := 0
  majorVersion := 65
  constantPool := pool
  accessFlags := fl
  thisClass := this
  superClass := sup
  interfaces := ifs
  fields := fds
  methods := ms
  attributes := attrs
def plain (name : String) (sup : Option ClassId) : Class where
  name := name
  kind := .ordinary
  loader := none
  accessFlags := 33
  super := sup
  interfaces := #[]
  cf := none
  fields := #[]
  methods := #[]
  instanceTypes := #[]
  staticTypes := #[]
  resolved := #[]
  callSites := []
  init := .initialized
  statics := none
  mirror := none

def pool0 : Array CpInfo := pool [(5, u "<init>"), (0, u "()V"), (1, .class_ 10), (1, u "java/lang/Object")] 113

def k0m0 : Method := { name := "<init>", desc := "()V", sig := { parameters := [], returnType := none }, accessFlags := 1, code := none }
/-- java/lang/Object -/
def k0 : Class := { plain "java/lang/Object" none with
  accessFlags := 33
  interfaces := #[]
  cf := some (fileOf pool0 8 #[] #[{ accessFlags := 1, nameIndex := 5, descriptorIndex := 6, attributes := #[] }] 33 0 #[] #[])
  fields := #[]
  methods := #[k0m0]
  instanceTypes := #[]
  staticTypes := #[]
  resolved := Array.replicate 124 none
  statics := none }

def pool1 : Array CpInfo := pool [(2, .class_ 4), (1, u "java/lang/Object"), (0, u "<init>"), (0, u "()V"), (0, .integer 983039), (0, .methodref 9 10), (0, .class_ 11), (0, .nameAndType 12 13), (0, u "com/example/libnodeset/libnodeset/tree/XmlCharactersIsNameStartPinLaw"), (0, u "in"), (0, u "(III)Z"), (0, .integer 55296), (0, .integer 63743), (0, .integer 64976), (0, .integer 65007), (0, .integer 65534), (0, .integer 65535), (0, .integer 55295), (0, .integer 63744), (0, .integer 64975), (0, .integer 65008), (0, .integer 65533), (0, .integer 65536), (0, .integer 2147483647), (0, .methodref 28 29), (0, .class_ 30), (0, .nameAndType 31 32), (0, u "com/example/libnodeset/libnodeset/tree/XmlCharacters"), (0, u "isNameStart"), (0, u "(I)Z"), (0, .methodref 9 34), (0, .nameAndType 35 32), (0, u "ref"), (3, u "law")] 4

def k1m0 : Method := { name := "<init>", desc := "()V", sig := { parameters := [], returnType := none }, accessFlags := 1, code := none }
def k1c1 : Code := { maxStack := 2, maxLocals := 3, code := method_2_code, exceptionTable := #[], attributes := #[] }
def k1m1 : Method := { name := "in", desc := "(III)Z", sig := { parameters := [.int, .int, .int], returnType := some .boolean }, accessFlags := 10, code := some k1c1 }
def k1c2 : Code := { maxStack := 3, maxLocals := 1, code := method_3_code, exceptionTable := #[], attributes := #[] }
def k1m2 : Method := { name := "ref", desc := "(I)Z", sig := { parameters := [.int], returnType := some .boolean }, accessFlags := 10, code := some k1c2 }
def k1c3 : Code := { maxStack := 4, maxLocals := 7, code := code, exceptionTable := #[], attributes := #[] }
def k1m3 : Method := { name := "law", desc := "(III)Z", sig := { parameters := [.int, .int, .int], returnType := some .boolean }, accessFlags := 9, code := some k1c3 }
/-- com/example/libnodeset/libnodeset/tree/XmlCharactersIsNameStartPinLaw -/
def k1 : Class := { plain "com/example/libnodeset/libnodeset/tree/XmlCharactersIsNameStartPinLaw" (some 0) with
  accessFlags := 49
  interfaces := #[]
  cf := some (fileOf pool1 9 #[] #[{ accessFlags := 1, nameIndex := 5, descriptorIndex := 6, attributes := #[] }, { accessFlags := 10, nameIndex := 12, descriptorIndex := 13, attributes := #[] }, { accessFlags := 10, nameIndex := 35, descriptorIndex := 32, attributes := #[] }, { accessFlags := 9, nameIndex := 39, descriptorIndex := 13, attributes := #[] }] 49 2 #[] #[])
  fields := #[]
  methods := #[k1m0, k1m1, k1m2, k1m3]
  instanceTypes := #[]
  staticTypes := #[]
  resolved := Array.replicate 44 none
  statics := none }

def pool2 : Array CpInfo := pool [(2, .class_ 4), (1, u "java/lang/Object"), (0, u "<init>"), (0, u "()V"), (0, .integer 55295), (1, .integer 65533), (0, .integer 65536), (21, .class_ 34), (1, u "com/example/libnodeset/libnodeset/tree/XmlCharacters"), (1, u "(I)Z"), (0, .integer 63744), (0, .integer 64975), (0, .integer 65008), (0, .integer 983039), (2, u "isNameStart")] 11

def k2m0 : Method := { name := "<init>", desc := "()V", sig := { parameters := [], returnType := none }, accessFlags := 2, code := none }
def k2c1 : Code := { maxStack := 2, maxLocals := 1, code := prog_200_method_7_code, exceptionTable := #[], attributes := #[] }
def k2m1 : Method := { name := "isNameStart", desc := "(I)Z", sig := { parameters := [.int], returnType := some .boolean }, accessFlags := 9, code := some k2c1 }
/-- com/example/libnodeset/libnodeset/tree/XmlCharacters -/
def k2 : Class := { plain "com/example/libnodeset/libnodeset/tree/XmlCharacters" (some 0) with
  accessFlags := 33
  interfaces := #[]
  cf := some (fileOf pool2 32 #[] #[{ accessFlags := 2, nameIndex := 5, descriptorIndex := 6, attributes := #[] }, { accessFlags := 9, nameIndex := 43, descriptorIndex := 36, attributes := #[] }] 33 2 #[] #[])
  fields := #[]
  methods := #[k2m0, k2m1]
  instanceTypes := #[]
  staticTypes := #[]
  resolved := Array.replicate 55 none
  statics := none }

def pool3 : Array CpInfo := pool [(1, u "java/lang/Cloneable"), (0, .class_ 1), (0, u "java/lang/Object"), (0, .class_ 3)] 3

/-- java/lang/Cloneable -/
def k3 : Class := { plain "java/lang/Cloneable" (some 0) with
  accessFlags := 1537
  interfaces := #[]
  cf := some (fileOf pool3 2 #[] #[] 1537 4 #[] #[])
  fields := #[]
  methods := #[]
  instanceTypes := #[]
  staticTypes := #[]
  resolved := Array.replicate 8 none
  statics := none }

def pool4 : Array CpInfo := pool [(1, u "java/io/Serializable"), (0, .class_ 1), (0, u "java/lang/Object"), (0, .class_ 3)] 3

/-- java/io/Serializable -/
def k4 : Class := { plain "java/io/Serializable" (some 0) with
  accessFlags := 1537
  interfaces := #[]
  cf := some (fileOf pool4 2 #[] #[] 1537 4 #[] #[])
  fields := #[]
  methods := #[]
  instanceTypes := #[]
  staticTypes := #[]
  resolved := Array.replicate 8 none
  statics := none }

/-- the primitive byte -/
def k5 : Class := { plain "byte" none with kind := .primitive 'B', accessFlags := 0x411 }
/-- [B -/
def k6 : Class := { plain "[B" (some 0) with kind := .array 5 .byte, interfaces := #[3, 4], accessFlags := 1041 }

/-- the primitive int -/
def k7 : Class := { plain "int" none with kind := .primitive 'I', accessFlags := 0x411 }
/-- [I -/
def k8 : Class := { plain "[I" (some 0) with kind := .array 7 .int, interfaces := #[3, 4], accessFlags := 1041 }

def heap : Heap := #[]
def classes : Array Class := #[k0, k1, k2, k3, k4, k5, k6, k7, k8]
def interned : List (Array UInt16 × Addr) := []
def slotsUsed : Nat := 0
def theMethod : MethodId := ⟨1, 3⟩
def args0 : Array Value := #[.int 5, .int 7, .int 3]
def aboutOver (below : List Frame) : State where
  vm := { classes := classes, interned := interned.toArray }
  heap := heap
  slotsUsed := slotsUsed
  threads := #[{ frames := .invoking theMethod args0 :: below }]
def below0 : List Frame := [.native { method := ⟨0, 0⟩, args := #[] }]
def about1 : State := aboutOver below0
def p0 : Program := .bare "" "" ""
def e0 : Env := launch0.env 0 0 0
theorem w_frames : about1.frames = Frame.invoking theMethod args0 :: below0 := rfl
set_option maxRecDepth 65536 in
theorem w_args : argsFit about1.vm theMethod args0 = true := by decide +kernel
set_option maxRecDepth 65536 in
theorem w_heap : heapFits about1 = true := by decide +kernel
set_option maxRecDepth 65536 in
theorem w_runnable : about1.curStatus? = some .runnable := by decide +kernel
set_option maxRecDepth 65536 in
theorem w_alone : about1.alone = true := by decide +kernel
set_option maxRecDepth 65536 in
theorem w_named : about1.methodNamed? x = some theMethod := by decide +kernel
set_option maxRecDepth 65536 in
theorem w_hears : about1.hears theMethod below0 = true := by decide +kernel
set_option maxRecDepth 65536 in
theorem w_ripe : about1.ripe theMethod args0 below0 = true := by decide +kernel
theorem w_running : about1.status = .running := rfl
set_option maxRecDepth 65536 in
theorem w_room : about1.hasRoom e0.platform room_1 = true :=
  launch0.hasRoom_least _ room_1 (by decide +kernel) (by decide +kernel) (by decide +kernel) (by decide +kernel) (by decide +kernel) (by decide +kernel)
theorem allAtoms_all (ts : List Jvm.Cond) (a : Array Jvm.Value) (st : Jvm.State) : (allAtoms ts).before a st = ts.all (fun c => c.before a st) := by
  induction ts with
  | nil => rfl
  | cons c t ih =>
    show (Jvm.Cond.and c (allAtoms t)).before a st = _
    rw [Jvm.Cond.before_and, ih, List.all_cons]
def words1 : List Jvm.Cond := Jvm.Cond.code x code maxLocals ret :: tables_1
/-- a 'code' word, met by the world's own term for the bytes: nothing is compared byte by byte -/
theorem code_word {y : MethodName} {bytes : ByteArray} {mx : Nat} {rt : Option FieldType} {a : Array Value} {s : State} {m : MethodId} {meth : Method} {c : Code} (h1 : s.methodNamed? y = some m) (h2 : s.vm.method? m = some meth) (h3 : meth.code = some c) (h4 : c.code = bytes)
    (h5 : (c.maxLocals == mx && c.exceptionTable.isEmpty && decide (c.maxStack ≤ mostOperands) && decide (meth.sig.returnType = rt) && !meth.locks && decide (parseMethodDescriptor y.desc = some meth.sig)) = true) : (Jvm.Cond.code y bytes mx rt).before a s = true := by
  simp only [Bool.and_eq_true, beq_iff_eq, Bool.not_eq_true', decide_eq_true_eq] at h5
  obtain ⟨⟨⟨⟨⟨g1, g2⟩, g3⟩, g4⟩, g5⟩, g6⟩ := h5
  simp [Cond.before, Cond.holds, Cond.value, h1, h2, h3, h4, g1, g2, g3, g4, g5, g6]
def isCode : Jvm.Cond → Bool
  | .code _ _ _ _ => true
  | _ => false
theorem all_split {L : List Jvm.Cond} {P : Jvm.Cond → Bool} (h1 : L.all (fun c => isCode c || P c) = true) (h2 : ∀ c ∈ L.filter isCode, P c = true) : L.all P = true := by
  refine List.all_eq_true.mpr fun c hc => ?_
  have h := List.all_eq_true.mp h1 c hc
  rcases Bool.eq_false_or_eq_true (isCode c) with hi | hi
  · exact h2 c (List.mem_filter.mpr ⟨hc, hi⟩)
  · simpa [hi] using h
set_option maxRecDepth 65536 in
theorem w_c0 : (Jvm.Cond.code x code maxLocals ret).before args0 about1 = true := code_word (m := ⟨1, 3⟩) (meth := k1m3) (c := k1c3) (by decide +kernel) rfl rfl rfl (by decide +kernel)
set_option maxRecDepth 65536 in
theorem w_c1 : (Jvm.Cond.code ({ cls := "com/example/libnodeset/libnodeset/tree/XmlCharacters", name := "isNameStart", desc := "(I)Z" } : Jvm.MethodName) prog_200_method_7_code (1 : Nat) (Option.some Jvm.ClassFile.FieldType.boolean)).before args0 about1 = true := code_word (m := ⟨2, 1⟩) (meth := k2m1) (c := k2c1) (by decide +kernel) rfl rfl rfl (by decide +kernel)
set_option maxRecDepth 65536 in
theorem w_c2 : (Jvm.Cond.code ({ cls := "com/example/libnodeset/libnodeset/tree/XmlCharactersIsNameStartPinLaw", name := "ref", desc := "(I)Z" } : Jvm.MethodName) method_3_code (1 : Nat) (Option.some Jvm.ClassFile.FieldType.boolean)).before args0 about1 = true := code_word (m := ⟨1, 2⟩) (meth := k1m2) (c := k1c2) (by decide +kernel) rfl rfl rfl (by decide +kernel)
set_option maxRecDepth 65536 in
theorem w_c3 : (Jvm.Cond.code ({ cls := "com/example/libnodeset/libnodeset/tree/XmlCharactersIsNameStartPinLaw", name := "in", desc := "(III)Z" } : Jvm.MethodName) method_2_code (3 : Nat) (Option.some Jvm.ClassFile.FieldType.boolean)).before args0 about1 = true := code_word (m := ⟨1, 1⟩) (meth := k1m1) (c := k1c1) (by decide +kernel) rfl rfl rfl (by decide +kernel)
def codes1 : List Jvm.Cond := [Jvm.Cond.code x code maxLocals ret, Jvm.Cond.code ({ cls := "com/example/libnodeset/libnodeset/tree/XmlCharacters", name := "isNameStart", desc := "(I)Z" } : Jvm.MethodName) prog_200_method_7_code (1 : Nat) (Option.some Jvm.ClassFile.FieldType.boolean), Jvm.Cond.code ({ cls := "com/example/libnodeset/libnodeset/tree/XmlCharactersIsNameStartPinLaw", name := "ref", desc := "(I)Z" } : Jvm.MethodName) method_3_code (1 : Nat) (Option.some Jvm.ClassFile.FieldType.boolean), Jvm.Cond.code ({ cls := "com/example/libnodeset/libnodeset/tree/XmlCharactersIsNameStartPinLaw", name := "in", desc := "(III)Z" } : Jvm.MethodName) method_2_code (3 : Nat) (Option.some Jvm.ClassFile.FieldType.boolean)]
set_option maxRecDepth 65536 in
theorem codes_eq : words1.filter isCode = codes1 := rfl
theorem w_codes : ∀ c ∈ words1.filter isCode, c.before args0 about1 = true := by
  rw [codes_eq]
  intro c hc
  simp only [codes1, List.mem_cons, List.not_mem_nil, or_false] at hc
  rcases hc with rfl | rfl | rfl | rfl
  · exact w_c0
  · exact w_c1
  · exact w_c2
  · exact w_c3
set_option maxRecDepth 65536 in
theorem w_t1 : (words1.take 24).all (fun c => isCode c || c.before args0 about1) = true := by decide +kernel
set_option maxRecDepth 65536 in
theorem w_t2 : (words1.drop 24).all (fun c => isCode c || c.before args0 about1) = true := by decide +kernel
theorem w_tables : (allAtoms (Jvm.Cond.code x code maxLocals ret :: tables_1)).before args0 about1 = true := by
  rw [allAtoms_all]
  show words1.all (fun c => c.before args0 about1) = true
  refine all_split ?_ w_codes
  rw [← List.take_append_drop 24 words1, List.all_append, w_t1, w_t2]
  rfl
set_option maxRecDepth 65536 in
theorem w_case : (Jvm.Cond.and given_1 narrow_1).before args0 about1 = true := by decide +kernel
theorem w_applies : (headSpec (Jvm.Cond.code x code maxLocals ret :: tables_1) room_1).applies x e0.platform about1 = true :=
  (Spec.applies_iff w_frames).mpr ⟨w_running, w_runnable, w_alone, w_named, w_hears, w_ripe, w_room, w_tables⟩
theorem atStart : AtStart classFile x code maxLocals ret World_1 tables_1 room_1 Calls_1 rest_1 Pre_1 launch0 p0 e0 about1 theMethod args0 below0 :=
  ⟨lists_1, trivial, launch0.admits_env _ _ _, launch0.least_env, fairChoices_fair.cas, fairChoices_fair.clock, w_frames, w_args, w_heap, w_applies, trivial, trivial, w_case⟩
end start1
theorem witness_1 : WitnessClaimed_1 := ⟨start1.p0, start1.e0, start1.about1, start1.theMethod, start1.args0, start1.below0, start1.atStart⟩
end Jvm.Pilot.@@N@@
