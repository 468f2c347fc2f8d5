import JvmDerived
import JvmDerived.Pilot.@@N@@Statement
import JvmDerived.Pilot.@@N@@Code
set_option linter.unusedVariables false
set_option linter.unusedSimpArgs false
namespace Jvm.RoadKit
open Sem ClassFile Op Lib Jvm.Stand Jvm.Free Jvm.LawKit
section Own
variable {p : Program} {l : Launch} {e : Env} {R : Room} {s : State} {m : MethodId} {args : Array Value} {below : List Frame} {meth : Method} {c : Code} {T : State} {locs : List Loc} {cells slots : Nat} {k n : Nat} {Q : Option Value → Heap → List Loc → Prop} {W W' : State} {Z : State} {a0 : Array Value} {h : Heap}
/-- the run from W comes back, with what Q says -/
def OwnOut (p : Program) (e : Env) (s : State) (below : List Frame) (k n : Nat) (Q : Option Value → Heap → List Loc → Prop) (W : State) : Prop :=
  ∃ s₂ o, Steps p.tables e below W s₂ ∧ s₂.status = .running ∧ Ended s₂ below o ∧ ∃ v L, o = .returned v ∧ Q v s₂.heap L ∧ FrameEnd s o s₂ L k n
theorem OwnOut.go (h : ∀ t, Steps p.tables e below W' t → Steps p.tables e below W t) (H : OwnOut p e s below k n Q W') : OwnOut p e s below k n Q W := by
  obtain ⟨s₂, o, h1, h2⟩ := H
  exact ⟨s₂, o, h _ h1, h2⟩
theorem OwnOut.at {g g' : JFrame} (q : g = g') (H : OwnOut p e s below k n Q (T.setTop g')) : OwnOut p e s below k n Q (T.setTop g) := q ▸ H
theorem OwnOut.imp {Q' : Option Value → Heap → List Loc → Prop} (q : ∀ v h L, Q' v h L → Q v h L) (H : OwnOut p e s below k n Q' W) : OwnOut p e s below k n Q W := by
  obtain ⟨s₂, o, h1, h2, h3, v, L, h4, h5, h6⟩ := H
  exact ⟨s₂, o, h1, h2, h3, v, L, h4, q _ _ _ h5, h6⟩
theorem outI (X : Stand p l e R s m args below meth c T locs cells slots) (hx : p.tables.exec = Jvm.exec) {pc : Nat} {Ls : Array Slot} {z : Int32} (hret : meth.sig.returnType = some .int) (hd : decode c.code pc = .ok (.ireturn, 1)) (hlk : meth.locks = false) (hk : cells ≤ k) (hn : slots ≤ n) (q : Q (some (.int z)) T.heap locs) :
    OwnOut p e s below k n Q (T.setTop (mkF m pc Ls [.int z])) := by
  obtain ⟨fs, hr, hrun, hended, hW, hsame⟩ := X.leave (v := some (.int z)) (fun h => by rw [hret] at h; cases h) hlk
  exact ⟨_, _, X.ireturnOut hx hret rfl (Or.inl rfl) hd hr, hrun, hended, _, _, rfl, q, ⟨_, rfl⟩, hW, hsame.mono hk hn⟩
theorem outZ (X : Stand p l e R s m args below meth c T locs cells slots) (hx : p.tables.exec = Jvm.exec) {pc : Nat} {Ls : Array Slot} {z : Int32} (hret : meth.sig.returnType = some .boolean) (hd : decode c.code pc = .ok (.ireturn, 1)) (hlk : meth.locks = false) (hk : cells ≤ k) (hn : slots ≤ n) (q : Q (some (.int (z &&& 1))) T.heap locs) :
    OwnOut p e s below k n Q (T.setTop (mkF m pc Ls [.int z])) := by
  obtain ⟨fs, hr, hrun, hended, hW, hsame⟩ := X.leave (v := some (.int (z &&& 1))) (fun h => by rw [hret] at h; cases h) hlk
  exact ⟨_, _, retN X hx (t := .boolean) hret (by simp) hd hr, hrun, hended, _, _, rfl, q, ⟨_, rfl⟩, hW, hsame.mono hk hn⟩
theorem outJ (X : Stand p l e R s m args below meth c T locs cells slots) (hx : p.tables.exec = Jvm.exec) {pc : Nat} {Ls : Array Slot} {z : Int64} (hret : meth.sig.returnType = some .long) (hd : decode c.code pc = .ok (.lreturn, 1)) (hlk : meth.locks = false) (hk : cells ≤ k) (hn : slots ≤ n) (q : Q (some (.long z)) T.heap locs) :
    OwnOut p e s below k n Q (T.setTop (mkF m pc Ls [.long z])) := by
  obtain ⟨fs, hr, hrun, hended, hW, hsame⟩ := X.leave (v := some (.long z)) (fun h => by rw [hret] at h; cases h) hlk
  exact ⟨_, _, X.lreturnOut hx hret hd hr, hrun, hended, _, _, rfl, q, ⟨_, rfl⟩, hW, hsame.mono hk hn⟩
theorem outA (X : Stand p l e R s m args below meth c T locs cells slots) (hx : p.tables.exec = Jvm.exec) {pc : Nat} {Ls : Array Slot} {w : Value} {t : FieldType} (hw : w.isRef = true) (hret : meth.sig.returnType = some t) (ht : t.isReference = true) (hd : decode c.code pc = .ok (.areturn, 1)) (hlk : meth.locks = false) (hk : cells ≤ k) (hn : slots ≤ n) (q : Q (some w) T.heap locs) :
    OwnOut p e s below k n Q (T.setTop (mkF m pc Ls [w])) := by
  obtain ⟨fs, hr, hrun, hended, hW, hsame⟩ := X.leave (v := some w) (fun h => by rw [hret] at h; cases h) hlk
  exact ⟨_, _, X.areturnOut hx hw hret ht hd hr, hrun, hended, _, _, rfl, q, ⟨_, rfl⟩, hW, hsame.mono hk hn⟩
theorem outV (X : Stand p l e R s m args below meth c T locs cells slots) (hx : p.tables.exec = Jvm.exec) {pc : Nat} {Ls : Array Slot} (hret : meth.sig.returnType = none) (hd : decode c.code pc = .ok (.return_, 1)) (hlk : meth.locks = false) (hk : cells ≤ k) (hn : slots ≤ n) (q : Q none T.heap locs) :
    OwnOut p e s below k n Q (T.setTop (mkF m pc Ls [])) := by
  obtain ⟨fs, hr, hrun, hended, hW, hsame⟩ := X.leave (v := none) (fun _ => rfl) hlk
  exact ⟨_, _, X.returnOut hx hret hd hr, hrun, hended, _, _, rfl, q, ⟨_, rfl⟩, hW, hsame.mono hk hn⟩
theorem lremM {g : JFrame} {target : State} (X : Stand p l e R s m args below meth c T locs cells slots) (hx : p.tables.exec = Jvm.exec) (hg : g.method = m) {x y : Int64} {rest : List Value} (hd : decode c.code g.pc = .ok (.lrem, 1)) (hs : g.stack = .long y :: .long x :: rest) (hy : y ≠ 0)
    (hr : Steps p.tables e below (T.setTop { g with pc := g.pc + 1, stack := .long (x % y) :: rest }) target) : Steps p.tables e below (T.setTop g) target :=
  XS.lrem X.here hx hg hd hs hy (by rw [lrem_mod]; exact hr)
/-- a body that touches nothing: what it returns, the heap as it was, nothing written -/
def QP (h0 : Heap) (w : Option Value) (v : Option Value) (h : Heap) (L : List Loc) : Prop := v = w ∧ h = h0 ∧ L = []
/-- a static call of such a body -/
theorem callP (X : Stand p l e R s m args below meth c T locs cells slots) (hx : p.tables.exec = Jvm.exec) (hZ : Z.Warmed39 s.vm) {own : String} {index : Nat} {y : MethodName} {bytes : ByteArray} {maxL : Nat} {ret : Option FieldType} {rm : Room} {as' : Array Value} {w : Option Value}
    (hown : s.vm.findClass own = some m.cls) (w1 : (Cond.methodLink own index y).before a0 Z = true) (w2 : (Cond.static y).before a0 Z = true) (w3 : (Cond.initialized y.cls).before a0 Z = true) (w4 : (Cond.code y bytes maxL ret).before a0 Z = true) (hy : y.cls ≠ "java/lang/invoke/MethodHandle" ∧ y.cls ≠ "java/lang/invoke/VarHandle")
    (hM : MetFree l y (head1 [Cond.code y bytes maxL ret] rm) (fun a U => a = as' ∧ Z.Warmed39 U.vm ∧ U.heap = h) (fun _ _ _ _ _ => True) (fun _ U o U' => ∃ v L, o = .returned v ∧ QP h w v U'.heap L ∧ FrameEnd U o U' L rm.cells rm.slots))
    {W : Nat} (hf : rm.frames + 1 ≤ R.frames) (hl : W + (maxL + 11) + rm.locals ≤ R.locals) (z1 : rm.cells = 0) (z2 : rm.slots = 0) (hc : cells ≤ R.cells) (hs' : slots ≤ R.slots) (eT : T.heap = h)
    {g : JFrame} (hg : g.method = m) (hsize : g.locals.size = c.maxLocals) {argsL rest : List Value} (hlen : ∀ sig, parseMethodDescriptor y.desc = some sig → argsL.length = sig.parameters.length)
    (hstack : g.stack = argsL.reverse ++ rest) (hW : 2 * g.monitorRoom + (rest.map fun v => v.category).sum ≤ W) (hdg : decode c.code g.pc = .ok (.invokestatic index, 3)) (has : argsL.toArray = as' := by rfl) :
    ∃ T', Stand p l e R s m args below meth c T' locs cells slots ∧ T'.heap = h ∧ ∀ target, Steps p.tables e below (T'.setTop { g with pc := g.pc + 3, stack := w.toList ++ rest }) target → Steps p.tables e below (T.setTop g) target := by
  obtain ⟨v, vm₁, ⟨T', L', k', n'⟩, -, X', ⟨Lc, ⟨rfl, q2, rfl⟩, l1, y1, z3⟩, st⟩ := Jvm.LawKit.callS X hx (y := y) hown (mvT hZ w1) (mvT hZ w2) (mvT hZ w3) (mvT hZ w4) hy (backOf (W := W) hM hZ w4 w3 hf hl) hg hsize hlen hstack hW hdg (fun _ _ => ⟨has, eT, by rw [z1]; exact hc, by rw [z2]; exact hs'⟩)
  dsimp only [Pt.U, Pt.locs, Pt.cells, Pt.slots] at X' l1 y1 z3 st q2
  rw [z1] at y1; rw [z2] at z3
  rw [List.append_nil] at l1
  subst l1 y1 z3
  exact ⟨T', X', q2, st⟩
end Own
end Jvm.RoadKit
namespace Jvm.RoadKit
open Sem ClassFile Op Lib Jvm.Stand Jvm.Free Jvm.LawKit
section Own2
variable {p : Program} {l : Launch} {e : Env} {R : Room} {s : State} {m : MethodId} {args : Array Value} {below : List Frame} {meth : Method} {c : Code} {T : State} {locs : List Loc} {cells slots : Nat} {Z : State} {a0 : Array Value} {h h' : Heap} {a b : Addr} {ty : FieldType} {vs : List Value} {sl : Nat} {v : Value} {ws : List Addr}
/-- an array, by the list of what it holds -/
def Ar (Z : State) (h : Heap) (a : Addr) (ty : FieldType) (vs : List Value) : Prop := ∃ c : Cell, Arr Z h a c ty ∧ c.slots.toList = vs ∧ vs.length < 2 ^ 31
theorem Ar.lt (A : Ar Z h a ty vs) : a < h.size := by obtain ⟨c, q, -⟩ := A; exact q.lt
theorem Ar.ext (A : Ar Z h a ty vs) (E : Ext h h') : Ar Z h' a ty vs := by obtain ⟨c, q, r⟩ := A; exact ⟨c, q.ext E, r⟩
theorem Ar.other (A : Ar Z h b ty vs) (W : Wr h h' a sl v) (q : b ≠ a) : Ar Z h' b ty vs := by obtain ⟨c, r, t⟩ := A; exact ⟨c, r.other W q, t⟩
theorem Ar.keep (A : Ar Z h a ty vs) (K : Keep h h' ws) (q : a ∉ ws) : Ar Z h' a ty vs := by obtain ⟨c, r, t⟩ := A; exact ⟨c, ⟨K.2.1 a c r.1 q, r.2⟩, t⟩
theorem Ar.same (A : Ar Z h a ty vs) (W : Wr h h' a sl v) : Ar Z h' a ty (vs.set sl v) := by
  obtain ⟨c, r, t, u⟩ := A
  refine ⟨_, r.same W, ?_, by rw [List.length_set]; exact u⟩
  show (c.slots.setIfInBounds sl v).toList = _
  rw [Array.toList_setIfInBounds, t]
abbrev Ari (Z : State) (h : Heap) (a : Addr) (ty : FieldType) (xs : List Int32) : Prop := Ar Z h a ty (xs.map Value.int)
abbrev Arj (Z : State) (h : Heap) (a : Addr) (xs : List Int64) : Prop := Ar Z h a .long (xs.map Value.long)
/-- what an array's place holds -/
def ldx {α : Type} (xs : List α) (j : Int32) : Option α := if j < 0 then none else xs[j.toNatClampNeg]?
def stx {α : Type} (xs : List α) (j : Int32) (v : α) : Option (List α) := if j < 0 then none else if xs.length ≤ j.toNatClampNeg then none else some (xs.set j.toNatClampNeg v)
def nwx {α : Type} (d : α) (cap : Nat) (n : Int32) : Option (List α) := if n < 0 then none else if cap < n.toNatClampNeg then none else some (List.replicate n.toNatClampNeg d)
def lenx {α : Type} (xs : List α) : Int32 := xs.length.toInt32
theorem ldx_at {α : Type} {f : α → Value} {xs : List α} {j : Int32} {x : α} {cl : Cell} (hv : ldx xs j = some x) (q : cl.slots.toList = xs.map f) : ¬ (j < 0 ∨ cl.slots.size ≤ j.toNatClampNeg) ∧ cl.slots[j.toNatClampNeg]? = some (f x) := by
  unfold ldx at hv
  by_cases hj : j < 0
  · rw [if_pos hj] at hv; cases hv
  rw [if_neg hj] at hv
  have h1 : cl.slots[j.toNatClampNeg]? = some (f x) := by rw [← Array.getElem?_toList, q, List.getElem?_map, hv]; rfl
  refine ⟨fun z => z.elim hj fun z => ?_, h1⟩
  rw [Array.getElem?_eq_none z] at h1; cases h1
theorem stx_at {α : Type} {f : α → Value} {xs ys : List α} {j : Int32} {x : α} {cl : Cell} (hv : stx xs j x = some ys) (q : cl.slots.toList = xs.map f) : ¬ (j < 0 ∨ cl.slots.size ≤ j.toNatClampNeg) ∧ ys = xs.set j.toNatClampNeg x := by
  unfold stx at hv
  by_cases hj : j < 0
  · rw [if_pos hj] at hv; cases hv
  rw [if_neg hj] at hv
  by_cases hl : xs.length ≤ j.toNatClampNeg
  · rw [if_pos hl] at hv; cases hv
  rw [if_neg hl] at hv
  refine ⟨fun z => z.elim hj fun z => hl ?_, (Option.some.inj hv).symm⟩
  have : cl.slots.size = xs.length := by rw [← Array.length_toList, q, List.length_map]
  omega
theorem ldI (X : Stand p l e R s m args below meth c T locs cells slots) (hx : p.tables.exec = Jvm.exec) (hZ : Z.Warmed39 s.vm) (eT : T.heap = h) {xs : List Int32} (A : Ari Z h a .int xs) {j v : Int32} (hv : ldx xs j = some v) {g : JFrame} (hg : g.method = m) {rest : List Value} (hs : g.stack = .int j :: .ref a :: rest) (hd : decode c.code g.pc = .ok (.iaload, 1)) (target : State)
    (hr : Steps p.tables e below (T.setTop { g with pc := g.pc + 1, stack := .int v :: rest }) target) : Steps p.tables e below (T.setTop g) target := by
  obtain ⟨cl, A1, A2, -⟩ := A
  obtain ⟨hj, hat⟩ := ldx_at hv A2
  exact X.iaload hx (by rw [eT]; exact A1.1) (State.isArrayOf_alike hZ.alike A1.2.1) A1.2.2 hj hat hg hs hd target hr
theorem ldB (X : Stand p l e R s m args below meth c T locs cells slots) (hx : p.tables.exec = Jvm.exec) (hZ : Z.Warmed39 s.vm) (eT : T.heap = h) {xs : List Int32} (A : Ari Z h a .byte xs) {j v : Int32} (hv : ldx xs j = some v) {g : JFrame} (hg : g.method = m) {rest : List Value} (hs : g.stack = .int j :: .ref a :: rest) (hd : decode c.code g.pc = .ok (.baload, 1)) (target : State)
    (hr : Steps p.tables e below (T.setTop { g with pc := g.pc + 1, stack := .int v :: rest }) target) : Steps p.tables e below (T.setTop g) target := by
  obtain ⟨cl, A1, A2, -⟩ := A
  obtain ⟨hj, hat⟩ := ldx_at hv A2
  exact X.baloadBytes hx (by rw [eT]; exact A1.1) (State.isArrayOf_alike hZ.alike A1.2.1) A1.2.2 hj hat hg hs hd target hr
theorem ldZ (X : Stand p l e R s m args below meth c T locs cells slots) (hx : p.tables.exec = Jvm.exec) (hZ : Z.Warmed39 s.vm) (eT : T.heap = h) {xs : List Int32} (A : Ari Z h a .boolean xs) {j v : Int32} (hv : ldx xs j = some v) {g : JFrame} (hg : g.method = m) {rest : List Value} (hs : g.stack = .int j :: .ref a :: rest) (hd : decode c.code g.pc = .ok (.baload, 1)) (target : State)
    (hr : Steps p.tables e below (T.setTop { g with pc := g.pc + 1, stack := .int v :: rest }) target) : Steps p.tables e below (T.setTop g) target := by
  obtain ⟨cl, A1, A2, -⟩ := A
  obtain ⟨hj, hat⟩ := ldx_at hv A2
  exact X.baloadBooleans hx (by rw [eT]; exact A1.1) (State.isArrayOf_alike hZ.alike A1.2.1) A1.2.2 hj hat hg hs hd target hr
theorem ldJ (X : Stand p l e R s m args below meth c T locs cells slots) (hx : p.tables.exec = Jvm.exec) (hZ : Z.Warmed39 s.vm) (eT : T.heap = h) {xs : List Int64} (A : Arj Z h a xs) {j : Int32} {v : Int64} (hv : ldx xs j = some v) {g : JFrame} (hg : g.method = m) {rest : List Value} (hs : g.stack = .int j :: .ref a :: rest) (hd : decode c.code g.pc = .ok (.laload, 1)) (target : State)
    (hr : Steps p.tables e below (T.setTop { g with pc := g.pc + 1, stack := .long v :: rest }) target) : Steps p.tables e below (T.setTop g) target := by
  obtain ⟨cl, A1, A2, -⟩ := A
  obtain ⟨hj, hat⟩ := ldx_at hv A2
  exact X.laload hx (by rw [eT]; exact A1.1) (State.isArrayOf_alike hZ.alike A1.2.1) A1.2.2 hj hat hg hs hd target hr
theorem lenA (X : Stand p l e R s m args below meth c T locs cells slots) (hx : p.tables.exec = Jvm.exec) (hZ : Z.Warmed39 s.vm) (eT : T.heap = h) {α : Type} {f : α → Value} {xs : List α} (A : Ar Z h a ty (xs.map f)) {g : JFrame} (hg : g.method = m) {rest : List Value} (hs : g.stack = .ref a :: rest) (hd : decode c.code g.pc = .ok (.arraylength, 1)) (target : State)
    (hr : Steps p.tables e below (T.setTop { g with pc := g.pc + 1, stack := .int (lenx xs) :: rest }) target) : Steps p.tables e below (T.setTop g) target := by
  obtain ⟨cl, A1, A2, -⟩ := A
  have : cl.slots.size = xs.length := by rw [← Array.length_toList, A2, List.length_map]
  refine X.arraylength hx (by rw [eT]; exact A1.1) (State.isArrayOf_alike hZ.alike A1.2.1) hg hs hd target ?_
  rw [this]; exact hr
theorem saI (X : Stand p l e R s m args below meth c T locs cells slots) (hx : p.tables.exec = Jvm.exec) (hZ : Z.Warmed39 s.vm) (eT : T.heap = h) {xs ys : List Int32} (A : Ari Z h a .int xs) {j v : Int32} (hv : stx xs j v = some ys) {g : JFrame} (hg : g.method = m) {rest : List Value} (hs : g.stack = .int v :: .int j :: .ref a :: rest) (hd : decode c.code g.pc = .ok (.iastore, 1)) :
    ∃ T' h', Stand p l e R s m args below meth c T' (locs ++ [⟨a, j.toNatClampNeg⟩]) cells slots ∧ T'.heap = h' ∧ Wr h h' a j.toNatClampNeg (.int v) ∧ Ari Z h' a .int ys ∧ ∀ target, Steps p.tables e below (T'.setTop { g with pc := g.pc + 1, stack := rest }) target → Steps p.tables e below (T.setTop g) target := by
  have A' := A
  obtain ⟨cl, A1, A2, -⟩ := A
  obtain ⟨hj, rfl⟩ := stx_at hv A2
  obtain ⟨T', h', X', e', W', st⟩ := stI X hx hZ eT A1 hj hg hs hd
  exact ⟨T', h', X', e', W', by have q := A'.same W'; rw [← List.map_set] at q; exact q, st⟩
theorem saB (X : Stand p l e R s m args below meth c T locs cells slots) (hx : p.tables.exec = Jvm.exec) (hZ : Z.Warmed39 s.vm) (eT : T.heap = h) {xs ys : List Int32} (A : Ari Z h a .byte xs) {j v : Int32} (hv : stx xs j v.toInt8.toInt32 = some ys) {g : JFrame} (hg : g.method = m) {rest : List Value} (hs : g.stack = .int v :: .int j :: .ref a :: rest) (hd : decode c.code g.pc = .ok (.bastore, 1)) :
    ∃ T' h', Stand p l e R s m args below meth c T' (locs ++ [⟨a, j.toNatClampNeg⟩]) cells slots ∧ T'.heap = h' ∧ Wr h h' a j.toNatClampNeg (.int v.toInt8.toInt32) ∧ Ari Z h' a .byte ys ∧ ∀ target, Steps p.tables e below (T'.setTop { g with pc := g.pc + 1, stack := rest }) target → Steps p.tables e below (T.setTop g) target := by
  have A' := A
  obtain ⟨cl, A1, A2, -⟩ := A
  obtain ⟨hj, rfl⟩ := stx_at hv A2
  obtain ⟨T', h', X', e', W', st⟩ := stB X hx hZ eT A1 hj hg hs hd
  exact ⟨T', h', X', e', W', by have q := A'.same W'; rw [show Value.int (nar .byte v) = Value.int v.toInt8.toInt32 from rfl, ← List.map_set] at q; exact q, st⟩
theorem saZ (X : Stand p l e R s m args below meth c T locs cells slots) (hx : p.tables.exec = Jvm.exec) (hZ : Z.Warmed39 s.vm) (eT : T.heap = h) {xs ys : List Int32} (A : Ari Z h a .boolean xs) {j v : Int32} (hv : stx xs j (v &&& 1) = some ys) {g : JFrame} (hg : g.method = m) {rest : List Value} (hs : g.stack = .int v :: .int j :: .ref a :: rest) (hd : decode c.code g.pc = .ok (.bastore, 1)) :
    ∃ T' h', Stand p l e R s m args below meth c T' (locs ++ [⟨a, j.toNatClampNeg⟩]) cells slots ∧ T'.heap = h' ∧ Wr h h' a j.toNatClampNeg (.int (v &&& 1)) ∧ Ari Z h' a .boolean ys ∧ ∀ target, Steps p.tables e below (T'.setTop { g with pc := g.pc + 1, stack := rest }) target → Steps p.tables e below (T.setTop g) target := by
  have A' := A
  obtain ⟨cl, A1, A2, -⟩ := A
  obtain ⟨hj, rfl⟩ := stx_at hv A2
  obtain ⟨T', h', X', e', W', st⟩ := stZ X hx hZ eT A1 hj hg hs hd
  exact ⟨T', h', X', e', W', by have q := A'.same W'; rw [show Value.int (nar .boolean v) = Value.int (v &&& 1) from rfl, ← List.map_set] at q; exact q, st⟩
theorem saJ (X : Stand p l e R s m args below meth c T locs cells slots) (hx : p.tables.exec = Jvm.exec) (hZ : Z.Warmed39 s.vm) (eT : T.heap = h) {xs ys : List Int64} (A : Arj Z h a xs) {j : Int32} {v : Int64} (hv : stx xs j v = some ys) {g : JFrame} (hg : g.method = m) {rest : List Value} (hs : g.stack = .long v :: .int j :: .ref a :: rest) (hd : decode c.code g.pc = .ok (.lastore, 1)) :
    ∃ T' h', Stand p l e R s m args below meth c T' (locs ++ [⟨a, j.toNatClampNeg⟩]) cells slots ∧ T'.heap = h' ∧ Wr h h' a j.toNatClampNeg (.long v) ∧ Arj Z h' a ys ∧ ∀ target, Steps p.tables e below (T'.setTop { g with pc := g.pc + 1, stack := rest }) target → Steps p.tables e below (T.setTop g) target := by
  have A' := A
  obtain ⟨cl, A1, A2, -⟩ := A
  obtain ⟨hj, rfl⟩ := stx_at hv A2
  obtain ⟨T', h', X', e', W', st⟩ := stJ X hx hZ eT A1 hj hg hs hd
  exact ⟨T', h', X', e', W', by have q := A'.same W'; rw [← List.map_set] at q; exact q, st⟩
theorem nwx_at {α : Type} {d : α} {cap : Nat} {n : Int32} {xs : List α} (hv : nwx d cap n = some xs) : ¬ n < 0 ∧ n.toNatClampNeg ≤ cap ∧ xs = List.replicate n.toNatClampNeg d := by
  unfold nwx at hv
  by_cases hj : n < 0
  · rw [if_pos hj] at hv; cases hv
  rw [if_neg hj] at hv
  by_cases hl : cap < n.toNatClampNeg
  · rw [if_pos hl] at hv; cases hv
  rw [if_neg hl] at hv
  exact ⟨hj, Nat.le_of_not_lt hl, (Option.some.inj hv).symm⟩
theorem Ar.new {α : Type} {f : α → Value} {d : α} {n : Int32} {cA : ClassId} (A : Arr Z h a (newA cA ty n) ty) (q : ¬ n < 0) (hd : defaultValue ty = f d) : Ar Z h a ty ((List.replicate n.toNatClampNeg d).map f) := by
  refine ⟨_, A, ?_, ?_⟩
  · show (Array.replicate n.toNatClampNeg (defaultValue ty)).toList = _
    rw [Array.toList_replicate, List.map_replicate, hd]
  · rw [List.length_map, List.length_replicate]; exact (back32 q).2
/-- a new array of ints, bytes, booleans .. -/
theorem nwA (X : Stand p l e R s m args below meth c T locs cells slots) (hx : p.tables.exec = Jvm.exec) (hZ : Z.Warmed39 s.vm) {aty : ArrayType} (w : (Cond.arrayClass (newarray.typeOf aty)).before a0 Z = true) (eT : T.heap = h) {α : Type} {f : α → Value} {d : α} {cap : Nat} {n : Int32} {xs : List α} (hv : nwx d cap n = some xs) (hdf : defaultValue (newarray.typeOf aty) = f d)
    {g : JFrame} (hg : g.method = m) {rest : List Value} (hs : g.stack = .int n :: rest) (hd : decode c.code g.pc = .ok (.newarray aty, 2)) (hb : cap * 8 ≤ 536870912) (hc : cells + 1 ≤ R.cells) (hl : slots + cap ≤ R.slots) :
    ∃ T' h', Stand p l e R s m args below meth c T' locs (cells + 1) (slots + cap) ∧ T'.heap = h' ∧ Ext h h' ∧ Ar Z h' h.size (newarray.typeOf aty) (xs.map f) ∧ ∀ target, Steps p.tables e below (T'.setTop { g with pc := g.pc + 2, stack := .ref h.size :: rest }) target → Steps p.tables e below (T.setTop g) target := by
  obtain ⟨q1, q2, rfl⟩ := nwx_at hv
  obtain ⟨T', h', cA, X', e', E', A', st⟩ := newP X hx hZ w eT hg hd hs q1 (cap := cap) q2 hb hc hl
  exact ⟨T', h', X', e', E', Ar.new A' q1 hdf, st⟩
variable {y : MethodName} {bytes : ByteArray} {maxL : Nat} {ret : Option FieldType} {rm : Room} {as' : Array Value} {Q : Option Value → Heap → List Loc → Prop} {own : String} {index : Nat}
/-- a static call by the callee's contract -/
theorem callQ (X : Stand p l e R s m args below meth c T locs cells slots) (hx : p.tables.exec = Jvm.exec) (hZ : Z.Warmed39 s.vm)
    (hown : s.vm.findClass own = some m.cls) (w1 : (Cond.methodLink own index y).before a0 Z = true) (w2 : (Cond.static y).before a0 Z = true) (w3 : (Cond.initialized y.cls).before a0 Z = true) (w4 : (Cond.code y bytes maxL ret).before a0 Z = true) (hy : y.cls ≠ "java/lang/invoke/MethodHandle" ∧ y.cls ≠ "java/lang/invoke/VarHandle")
    (hM : MetFree l y (head1 [Cond.code y bytes maxL ret] rm) (fun a U => a = as' ∧ Z.Warmed39 U.vm ∧ U.heap = h) (fun _ _ _ _ _ => True) (fun _ U o U' => ∃ v L, o = .returned v ∧ Q v U'.heap L ∧ FrameEnd U o U' L rm.cells rm.slots))
    {W : Nat} (hf : rm.frames + 1 ≤ R.frames) (hl : W + (maxL + 11) + rm.locals ≤ R.locals) (hc : cells + rm.cells ≤ R.cells) (hs' : slots + rm.slots ≤ R.slots) (eT : T.heap = h)
    {g : JFrame} (hg : g.method = m) (hsize : g.locals.size = c.maxLocals) {argsL rest : List Value} (hlen : ∀ sig, parseMethodDescriptor y.desc = some sig → argsL.length = sig.parameters.length)
    (hstack : g.stack = argsL.reverse ++ rest) (hW : 2 * g.monitorRoom + (rest.map fun v => v.category).sum ≤ W) (hdg : decode c.code g.pc = .ok (.invokestatic index, 3)) (has : argsL.toArray = as' := by rfl) :
    ∃ v T' L', Stand p l e R s m args below meth c T' (locs ++ L') (cells + rm.cells) (slots + rm.slots) ∧ Q v T'.heap L' ∧ ∀ target, Steps p.tables e below (T'.setTop { g with pc := g.pc + 3, stack := v.toList ++ rest }) target → Steps p.tables e below (T.setTop g) target := by
  obtain ⟨v, vm₁, ⟨T', L', k', n'⟩, -, X', ⟨Lc, q2, l1, y1, z3⟩, st⟩ := Jvm.LawKit.callS X hx (y := y) hown (mvT hZ w1) (mvT hZ w2) (mvT hZ w3) (mvT hZ w4) hy (backOf (W := W) hM hZ w4 w3 hf hl) hg hsize hlen hstack hW hdg (fun _ _ => ⟨has, eT, hc, hs'⟩)
  dsimp only [Pt.U, Pt.locs, Pt.cells, Pt.slots] at X' l1 y1 z3 st q2
  subst l1 y1 z3
  exact ⟨v, T', Lc, X', q2, st⟩
/-- a constructor by its contract -/
theorem callN {ret : Option FieldType} (X : Stand p l e R s m args below meth c T locs cells slots) (hx : p.tables.exec = Jvm.exec) (hZ : Z.Warmed39 s.vm) (hret : ret = none) (hnm : y.name = "<init>")
    (hown : s.vm.findClass own = some m.cls) (w1 : (Cond.methodLink own index y).before a0 Z = true) (w2 : (Cond.instanceMethod y).before a0 Z = true) (w3 : (Cond.initialized y.cls).before a0 Z = true) (w4 : (Cond.code y bytes maxL ret).before a0 Z = true) (hy : y.cls ≠ "java/lang/invoke/MethodHandle" ∧ y.cls ≠ "java/lang/invoke/VarHandle")
    (hM : MetFree l y (head1 [Cond.code y bytes maxL ret] rm) (fun a U => a = as' ∧ Z.Warmed39 U.vm ∧ U.heap = h) (fun _ _ _ _ _ => True) (fun _ U o U' => ∃ v L, o = .returned v ∧ Q v U'.heap L ∧ FrameEnd U o U' L rm.cells rm.slots))
    {W : Nat} (hf : rm.frames + 1 ≤ R.frames) (hl : W + (maxL + 11) + rm.locals ≤ R.locals) (hc : cells + rm.cells ≤ R.cells) (hs' : slots + rm.slots ≤ R.slots) (eT : T.heap = h)
    {g : JFrame} (hg : g.method = m) (hsize : g.locals.size = c.maxLocals) {a : Addr} {argsL rest : List Value} (hlen : ∀ sig, parseMethodDescriptor y.desc = some sig → argsL.length = sig.parameters.length)
    (hstack : g.stack = argsL.reverse ++ .ref a :: rest) (hW : 2 * g.monitorRoom + (rest.map fun v => v.category).sum ≤ W) (hdg : decode c.code g.pc = .ok (.invokespecial index, 3)) (has : (Value.ref a :: argsL).toArray = as' := by rfl) :
    ∃ v T' L', Stand p l e R s m args below meth c T' (locs ++ L') (cells + rm.cells) (slots + rm.slots) ∧ Q v T'.heap L' ∧ ∀ target, Steps p.tables e below (T'.setTop { g with pc := g.pc + 3, stack := v.toList ++ rest }) target → Steps p.tables e below (T.setTop g) target := by
  subst hret
  obtain ⟨v, vm₁, ⟨T', L', k', n'⟩, -, X', ⟨Lc, q2, l1, y1, z3⟩, st⟩ := X.specialBack hx (y := y) hnm hown (mvT hZ w1) (mvT hZ w2) (mvT hZ w4) hy (backOf (W := W) hM hZ w4 w3 hf hl) hg hsize (Steps.refl _) hlen hstack hW hdg (fun _ _ => ⟨has, eT, hc, hs'⟩)
  dsimp only [Pt.U, Pt.locs, Pt.cells, Pt.slots] at X' l1 y1 z3 st q2
  subst l1 y1 z3
  exact ⟨v, T', Lc, X', q2, fun t k => st.trans k⟩
/-- an instance method by its contract -/
theorem callV (X : Stand p l e R s m args below meth c T locs cells slots) (hx : p.tables.exec = Jvm.exec) (hZ : Z.Warmed39 s.vm)
    (hown : s.vm.findClass own = some m.cls) (w1 : (Cond.methodLink own index y).before a0 Z = true) (w2 : (Cond.declares y).before a0 Z = true) (w3 : (Cond.selects y.cls y y).before a0 Z = true) (w5 : (Cond.instanceMethod y).before a0 Z = true) (w6 : (Cond.initialized y.cls).before a0 Z = true) (w4 : (Cond.code y bytes maxL ret).before a0 Z = true) (hy : y.cls ≠ "java/lang/invoke/MethodHandle" ∧ y.cls ≠ "java/lang/invoke/VarHandle")
    (hM : MetFree l y (head1 [Cond.code y bytes maxL ret] rm) (fun a U => a = as' ∧ Z.Warmed39 U.vm ∧ U.heap = h) (fun _ _ _ _ _ => True) (fun _ U o U' => ∃ v L, o = .returned v ∧ Q v U'.heap L ∧ FrameEnd U o U' L rm.cells rm.slots))
    {W : Nat} (hf : rm.frames + 1 ≤ R.frames) (hl : W + (maxL + 11) + rm.locals ≤ R.locals) (hc : cells + rm.cells ≤ R.cells) (hs' : slots + rm.slots ≤ R.slots) (eT : T.heap = h) {a : Addr} (E : Exa Z h a y.cls)
    {g : JFrame} (hg : g.method = m) (hsize : g.locals.size = c.maxLocals) {argsL rest : List Value} (hlen : ∀ sig, parseMethodDescriptor y.desc = some sig → argsL.length = sig.parameters.length)
    (hstack : g.stack = argsL.reverse ++ .ref a :: rest) (hW : 2 * g.monitorRoom + (rest.map fun v => v.category).sum ≤ W) (hdg : decode c.code g.pc = .ok (.invokevirtual index, 3)) (has : (Value.ref a :: argsL).toArray = as' := by rfl) :
    ∃ v T' L', Stand p l e R s m args below meth c T' (locs ++ L') (cells + rm.cells) (slots + rm.slots) ∧ Q v T'.heap L' ∧ ∀ target, Steps p.tables e below (T'.setTop { g with pc := g.pc + 3, stack := v.toList ++ rest }) target → Steps p.tables e below (T.setTop g) target := by
  obtain ⟨cq, kq, qa, qb, qc⟩ := isOf hZ eT E
  obtain ⟨v, vm₁, ⟨T', L', k', n'⟩, -, X', ⟨Lc, q2, l1, y1, z3⟩, st⟩ := X.virtualBack hx (y := y) (z := y) hown (mvT hZ w1) (mvT hZ w2) (notFace_of_selects (args := #[]) (mvT hZ w3)) (mvT hZ w3) (mvT hZ w5) hy (backOf (W := W) hM hZ w4 w6 hf hl) qa qc hg hsize (Steps.refl _) hlen hstack hW hdg (fun _ _ => ⟨has, eT, hc, hs'⟩)
  dsimp only [Pt.U, Pt.locs, Pt.cells, Pt.slots] at X' l1 y1 z3 st q2
  subst l1 y1 z3
  exact ⟨v, T', Lc, X', q2, fun t k => st.trans k⟩
/-- a private method by its contract -/
theorem callR (X : Stand p l e R s m args below meth c T locs cells slots) (hx : p.tables.exec = Jvm.exec) (hZ : Z.Warmed39 s.vm)
    (hown : s.vm.findClass own = some m.cls) (w1 : (Cond.methodLink own index y).before a0 Z = true) (w2 : (Cond.privateMethod y).before a0 Z = true) {kk : Nat} (w3 : (Cond.instantiable y.cls kk).before a0 Z = true) (w5 : (Cond.instanceMethod y).before a0 Z = true) (w6 : (Cond.initialized y.cls).before a0 Z = true) (w4 : (Cond.code y bytes maxL ret).before a0 Z = true) (hy : y.cls ≠ "java/lang/invoke/MethodHandle" ∧ y.cls ≠ "java/lang/invoke/VarHandle")
    (hM : MetFree l y (head1 [Cond.code y bytes maxL ret] rm) (fun a U => a = as' ∧ Z.Warmed39 U.vm ∧ U.heap = h) (fun _ _ _ _ _ => True) (fun _ U o U' => ∃ v L, o = .returned v ∧ Q v U'.heap L ∧ FrameEnd U o U' L rm.cells rm.slots))
    {W : Nat} (hf : rm.frames + 1 ≤ R.frames) (hl : W + (maxL + 11) + rm.locals ≤ R.locals) (hc : cells + rm.cells ≤ R.cells) (hs' : slots + rm.slots ≤ R.slots) (eT : T.heap = h) {a : Addr} (E : Exa Z h a y.cls)
    {g : JFrame} (hg : g.method = m) (hsize : g.locals.size = c.maxLocals) {argsL rest : List Value} (hlen : ∀ sig, parseMethodDescriptor y.desc = some sig → argsL.length = sig.parameters.length)
    (hstack : g.stack = argsL.reverse ++ .ref a :: rest) (hW : 2 * g.monitorRoom + (rest.map fun v => v.category).sum ≤ W) (hdg : decode c.code g.pc = .ok (.invokevirtual index, 3)) (has : (Value.ref a :: argsL).toArray = as' := by rfl) :
    ∃ v T' L', Stand p l e R s m args below meth c T' (locs ++ L') (cells + rm.cells) (slots + rm.slots) ∧ Q v T'.heap L' ∧ ∀ target, Steps p.tables e below (T'.setTop { g with pc := g.pc + 3, stack := v.toList ++ rest }) target → Steps p.tables e below (T.setTop g) target := by
  obtain ⟨cq, q, q'⟩ := E.cell
  have hpr := Cond.privateMethod_at (mvP hZ w2 (args := args))
  obtain ⟨c4, k2, i1, i2, -, i4, -⟩ := Cond.instantiable_spec (mvT hZ w3 : (Cond.instantiable y.cls kk).before args s = true)
  have hsel := selects_self_of_private (args := args) i1 i2 (by simp only [Bool.or_eq_false_iff] at i4; exact i4.1) hpr (mvT hZ w5) hy
  obtain ⟨v, vm₁, ⟨T', L', k', n'⟩, -, X', ⟨Lc, q2, l1, y1, z3⟩, st⟩ := X.privateBack hx (y := y) hown (mvT hZ w1) (mvT hZ w5) hsel hpr (mvT hZ w4) hy (backOf (W := W) hM hZ w4 w6 hf hl) hg hsize (Steps.refl _) (by rw [eT]; exact q) q' hlen hstack hW hdg (fun _ _ => ⟨has, eT, hc, hs'⟩)
  dsimp only [Pt.U, Pt.locs, Pt.cells, Pt.slots] at X' l1 y1 z3 st q2
  subst l1 y1 z3
  exact ⟨v, T', Lc, X', q2, fun t k => st.trans k⟩
end Own2
end Jvm.RoadKit
namespace Jvm.Pilot.@@N@@
open Jvm Jvm.ClassFile Sem Op Lib Jvm.Free Jvm.Stand Jvm.LawKit Jvm.RoadKit Bundle Jvm.Pilot.@@N@@.Jvm.D
-- body 1 as 1: com/example/libnodeset/libnodeset/tree/XmlCharacters.isChar:(I)Z (touches nothing)
theorem d1_0 : decode prog_200_method_2_code 0 = .ok (.iload_n 0, 1) := by decide +kernel
theorem d1_1 : decode prog_200_method_2_code 1 = .ok (.bipush 9, 2) := by decide +kernel
theorem d1_3 : decode prog_200_method_2_code 3 = .ok (.if_icmp .eq 51, 3) := by decide +kernel
theorem d1_6 : decode prog_200_method_2_code 6 = .ok (.iload_n 0, 1) := by decide +kernel
theorem d1_7 : decode prog_200_method_2_code 7 = .ok (.bipush 10, 2) := by decide +kernel
theorem d1_9 : decode prog_200_method_2_code 9 = .ok (.if_icmp .eq 45, 3) := by decide +kernel
theorem d1_12 : decode prog_200_method_2_code 12 = .ok (.iload_n 0, 1) := by decide +kernel
theorem d1_13 : decode prog_200_method_2_code 13 = .ok (.bipush 13, 2) := by decide +kernel
theorem d1_15 : decode prog_200_method_2_code 15 = .ok (.if_icmp .eq 39, 3) := by decide +kernel
theorem d1_18 : decode prog_200_method_2_code 18 = .ok (.iload_n 0, 1) := by decide +kernel
theorem d1_19 : decode prog_200_method_2_code 19 = .ok (.bipush 32, 2) := by decide +kernel
theorem d1_21 : decode prog_200_method_2_code 21 = .ok (.if_icmp .lt 9, 3) := by decide +kernel
theorem d1_24 : decode prog_200_method_2_code 24 = .ok (.iload_n 0, 1) := by decide +kernel
theorem d1_25 : decode prog_200_method_2_code 25 = .ok (.ldc 7, 2) := by decide +kernel
theorem d1_27 : decode prog_200_method_2_code 27 = .ok (.if_icmp .le 27, 3) := by decide +kernel
theorem d1_30 : decode prog_200_method_2_code 30 = .ok (.iload_n 0, 1) := by decide +kernel
theorem d1_31 : decode prog_200_method_2_code 31 = .ok (.ldc 8, 2) := by decide +kernel
theorem d1_33 : decode prog_200_method_2_code 33 = .ok (.if_icmp .lt 9, 3) := by decide +kernel
theorem d1_36 : decode prog_200_method_2_code 36 = .ok (.iload_n 0, 1) := by decide +kernel
theorem d1_37 : decode prog_200_method_2_code 37 = .ok (.ldc 9, 2) := by decide +kernel
theorem d1_39 : decode prog_200_method_2_code 39 = .ok (.if_icmp .le 15, 3) := by decide +kernel
theorem d1_42 : decode prog_200_method_2_code 42 = .ok (.iload_n 0, 1) := by decide +kernel
theorem d1_43 : decode prog_200_method_2_code 43 = .ok (.ldc 10, 2) := by decide +kernel
theorem d1_45 : decode prog_200_method_2_code 45 = .ok (.if_icmp .lt 13, 3) := by decide +kernel
theorem d1_48 : decode prog_200_method_2_code 48 = .ok (.iload_n 0, 1) := by decide +kernel
theorem d1_49 : decode prog_200_method_2_code 49 = .ok (.ldc 11, 2) := by decide +kernel
theorem d1_51 : decode prog_200_method_2_code 51 = .ok (.if_icmp .gt 7, 3) := by decide +kernel
theorem d1_54 : decode prog_200_method_2_code 54 = .ok (.iconst 1, 1) := by decide +kernel
theorem d1_55 : decode prog_200_method_2_code 55 = .ok (.goto 4, 3) := by decide +kernel
theorem d1_58 : decode prog_200_method_2_code 58 = .ok (.iconst 0, 1) := by decide +kernel
theorem d1_59 : decode prog_200_method_2_code 59 = .ok (.ireturn, 1) := by decide +kernel
theorem pn1 : plainName "com/example/libnodeset/libnodeset/tree/XmlCharacters" = true := by first | (simp [plainName, overriddenIn]; done) | decide +kernel
theorem pd1 : parseMethodDescriptor "(I)Z" = some ⟨[.int], some .boolean⟩ := by decide +kernel
theorem ef1 (m : MethodId) (x0 : Int32) : entryFrame m #[(.int x0)] 1 = mkF m 0 #[.val (.int x0)] [] := by first | (simp [entryFrame, mkF, argsToLocals, Value.category]; done) | rfl
abbrev rx1 : Room := { frames := 0, cells := 0, slots := 0, locals := 0 }
abbrev Cx1 (Z : State) (a0 : Array Value) (p : Program) (s : State) (m : MethodId) (meth : Method) (c : Code) : Prop := p.tables.exec = Jvm.exec ∧ Z.Warmed39 s.vm ∧ (∀ d ∈ tables_1, d.before a0 Z = true) ∧ c.code = prog_200_method_2_code ∧ c.maxLocals = 1 ∧ s.vm.findClass "com/example/libnodeset/libnodeset/tree/XmlCharacters" = some m.cls ∧ meth.sig.returnType = (some .boolean) ∧ meth.locks = false ∧ meth.name = "isChar"
def Q1 (Z : State) (x0 : Int32) (h0 : Heap) (o : Int32) (v : Option Value) (h : Heap) (L : List Loc) : Prop := v = some (.int o) ∧ h = h0 ∧ L = []
def f1_42 (x0 : Int32) : Option (Int32) := (if x0 < (65536 : Int32) then some ((0 : Int32)) else (if (1114111 : Int32) < x0 then some ((0 : Int32)) else some ((1 : Int32))))
set_option maxRecDepth 65536 in
set_option maxHeartbeats 40000000 in
theorem w1_42 {p : Program} {l : Launch} {e : Env} {s : State} {m : MethodId} {args : Array Value} {below : List Frame} {meth : Method} {c : Code} {Z : State} {a0 : Array Value} {h0 : Heap} (C : Cx1 Z a0 p s m meth c) :
    ∀ (T : State) (x0 : Int32) (o : Int32), f1_42 x0 = some o → Stand p l e rx1 s m args below meth c T [] 0 0 → T.heap = h0 →  OwnOut p e s below 0 0 (Q1 Z default h0 o) (T.setTop (mkF m 42 #[.val (.int x0)] [])) := by
    obtain ⟨hx, hZ, hw, hby, hml, hown, hret, hlk, hnm⟩ := C
    intro T x0 o hr X0 e0
    rw [f1_42] at hr
    refine OwnOut.go (fun t k => XS.iloadN X0.here hx rfl (hb hby d1_42) rfl k) ?_
    show OwnOut p e s below 0 0 _ (T.setTop (mkF m 43 #[.val (.int x0)] [(.int x0)]))
    refine OwnOut.go (fun t k => X0.ldcInt hx hown (mvT hZ (hw _ (List.mem_of_getElem? (i := 11) rfl))) (g := (mkF m 43 #[.val (.int x0)] [(.int x0)])) rfl (hb hby d1_43) _ k) ?_
    show OwnOut p e s below 0 0 _ (T.setTop (mkF m 45 #[.val (.int x0)] [(.int (65536 : Int32)), (.int x0)]))
    by_cases hc45 : x0 < (65536 : Int32)
    · rw [if_pos hc45] at hr
      refine OwnOut.go (fun t k => XS.icmpYes X0.here hx rfl (pc0 := 45) (pc' := 58) rfl (hb hby d1_45) rfl (XT.ii_lt_t hc45) (by decide) (by decide) k) ?_
      show OwnOut p e s below 0 0 _ (T.setTop (mkF m 58 #[.val (.int x0)] []))
      refine OwnOut.go (fun t k => XT.iconstV X0.here hx rfl (0 : Int32) (hb hby d1_58) rfl k) ?_
      show OwnOut p e s below 0 0 _ (T.setTop (mkF m 59 #[.val (.int x0)] [(.int (0 : Int32))]))
      cases hr
      exact outZ X0 hx hret (hb hby d1_59) hlk (by decide) (by decide) ⟨rfl, e0, rfl⟩
    · rw [if_neg hc45] at hr
      refine OwnOut.go (fun t k => XS.icmpNo X0.here hx rfl (hb hby d1_45) rfl (XT.ii_lt_f hc45) k) ?_
      show OwnOut p e s below 0 0 _ (T.setTop (mkF m 48 #[.val (.int x0)] []))
      refine OwnOut.go (fun t k => XS.iloadN X0.here hx rfl (hb hby d1_48) rfl k) ?_
      show OwnOut p e s below 0 0 _ (T.setTop (mkF m 49 #[.val (.int x0)] [(.int x0)]))
      refine OwnOut.go (fun t k => X0.ldcInt hx hown (mvT hZ (hw _ (List.mem_of_getElem? (i := 21) rfl))) (g := (mkF m 49 #[.val (.int x0)] [(.int x0)])) rfl (hb hby d1_49) _ k) ?_
      show OwnOut p e s below 0 0 _ (T.setTop (mkF m 51 #[.val (.int x0)] [(.int (1114111 : Int32)), (.int x0)]))
      by_cases hc51 : (1114111 : Int32) < x0
      · rw [if_pos hc51] at hr
        refine OwnOut.go (fun t k => XS.icmpYes X0.here hx rfl (pc0 := 51) (pc' := 58) rfl (hb hby d1_51) rfl (XT.ii_gt_t hc51) (by decide) (by decide) k) ?_
        show OwnOut p e s below 0 0 _ (T.setTop (mkF m 58 #[.val (.int x0)] []))
        refine OwnOut.go (fun t k => XT.iconstV X0.here hx rfl (0 : Int32) (hb hby d1_58) rfl k) ?_
        show OwnOut p e s below 0 0 _ (T.setTop (mkF m 59 #[.val (.int x0)] [(.int (0 : Int32))]))
        cases hr
        exact outZ X0 hx hret (hb hby d1_59) hlk (by decide) (by decide) ⟨rfl, e0, rfl⟩
      · rw [if_neg hc51] at hr
        refine OwnOut.go (fun t k => XS.icmpNo X0.here hx rfl (hb hby d1_51) rfl (XT.ii_gt_f hc51) k) ?_
        show OwnOut p e s below 0 0 _ (T.setTop (mkF m 54 #[.val (.int x0)] []))
        refine OwnOut.go (fun t k => XT.iconstV X0.here hx rfl (1 : Int32) (hb hby d1_54) rfl k) ?_
        show OwnOut p e s below 0 0 _ (T.setTop (mkF m 55 #[.val (.int x0)] [(.int (1 : Int32))]))
        refine OwnOut.go (fun t k => XS.goto X0.here hx rfl (pc0 := 55) (pc' := 59) rfl (hb hby d1_55) (by decide) (by decide) k) ?_
        show OwnOut p e s below 0 0 _ (T.setTop (mkF m 59 #[.val (.int x0)] [(.int (1 : Int32))]))
        cases hr
        exact outZ X0 hx hret (hb hby d1_59) hlk (by decide) (by decide) ⟨rfl, e0, rfl⟩
def f1_30 (x0 : Int32) : Option (Int32) := (if x0 < (57344 : Int32) then (f1_42 x0) else (if (65533 : Int32) < x0 then (f1_42 x0) else some ((1 : Int32))))
set_option maxRecDepth 65536 in
set_option maxHeartbeats 40000000 in
theorem w1_30 {p : Program} {l : Launch} {e : Env} {s : State} {m : MethodId} {args : Array Value} {below : List Frame} {meth : Method} {c : Code} {Z : State} {a0 : Array Value} {h0 : Heap} (C : Cx1 Z a0 p s m meth c) :
    ∀ (T : State) (x0 : Int32) (o : Int32), f1_30 x0 = some o → Stand p l e rx1 s m args below meth c T [] 0 0 → T.heap = h0 →  OwnOut p e s below 0 0 (Q1 Z default h0 o) (T.setTop (mkF m 30 #[.val (.int x0)] [])) := by
    obtain ⟨hx, hZ, hw, hby, hml, hown, hret, hlk, hnm⟩ := C
    intro T x0 o hr X0 e0
    rw [f1_30] at hr
    refine OwnOut.go (fun t k => XS.iloadN X0.here hx rfl (hb hby d1_30) rfl k) ?_
    show OwnOut p e s below 0 0 _ (T.setTop (mkF m 31 #[.val (.int x0)] [(.int x0)]))
    refine OwnOut.go (fun t k => X0.ldcInt hx hown (mvT hZ (hw _ (List.mem_of_getElem? (i := 10) rfl))) (g := (mkF m 31 #[.val (.int x0)] [(.int x0)])) rfl (hb hby d1_31) _ k) ?_
    show OwnOut p e s below 0 0 _ (T.setTop (mkF m 33 #[.val (.int x0)] [(.int (57344 : Int32)), (.int x0)]))
    by_cases hc33 : x0 < (57344 : Int32)
    · rw [if_pos hc33] at hr
      refine OwnOut.go (fun t k => XS.icmpYes X0.here hx rfl (pc0 := 33) (pc' := 42) rfl (hb hby d1_33) rfl (XT.ii_lt_t hc33) (by decide) (by decide) k) ?_
      show OwnOut p e s below 0 0 _ (T.setTop (mkF m 42 #[.val (.int x0)] []))
      exact w1_42 ⟨hx, hZ, hw, hby, hml, hown, hret, hlk, hnm⟩  _ x0 _ hr X0 e0
    · rw [if_neg hc33] at hr
      refine OwnOut.go (fun t k => XS.icmpNo X0.here hx rfl (hb hby d1_33) rfl (XT.ii_lt_f hc33) k) ?_
      show OwnOut p e s below 0 0 _ (T.setTop (mkF m 36 #[.val (.int x0)] []))
      refine OwnOut.go (fun t k => XS.iloadN X0.here hx rfl (hb hby d1_36) rfl k) ?_
      show OwnOut p e s below 0 0 _ (T.setTop (mkF m 37 #[.val (.int x0)] [(.int x0)]))
      refine OwnOut.go (fun t k => X0.ldcInt hx hown (mvT hZ (hw _ (List.mem_of_getElem? (i := 20) rfl))) (g := (mkF m 37 #[.val (.int x0)] [(.int x0)])) rfl (hb hby d1_37) _ k) ?_
      show OwnOut p e s below 0 0 _ (T.setTop (mkF m 39 #[.val (.int x0)] [(.int (65533 : Int32)), (.int x0)]))
      by_cases hc39 : (65533 : Int32) < x0
      · rw [if_pos hc39] at hr
        refine OwnOut.go (fun t k => XS.icmpNo X0.here hx rfl (hb hby d1_39) rfl (XT.ii_le_f hc39) k) ?_
        show OwnOut p e s below 0 0 _ (T.setTop (mkF m 42 #[.val (.int x0)] []))
        exact w1_42 ⟨hx, hZ, hw, hby, hml, hown, hret, hlk, hnm⟩  _ x0 _ hr X0 e0
      · rw [if_neg hc39] at hr
        refine OwnOut.go (fun t k => XS.icmpYes X0.here hx rfl (pc0 := 39) (pc' := 54) rfl (hb hby d1_39) rfl (XT.ii_le_t hc39) (by decide) (by decide) k) ?_
        show OwnOut p e s below 0 0 _ (T.setTop (mkF m 54 #[.val (.int x0)] []))
        refine OwnOut.go (fun t k => XT.iconstV X0.here hx rfl (1 : Int32) (hb hby d1_54) rfl k) ?_
        show OwnOut p e s below 0 0 _ (T.setTop (mkF m 55 #[.val (.int x0)] [(.int (1 : Int32))]))
        refine OwnOut.go (fun t k => XS.goto X0.here hx rfl (pc0 := 55) (pc' := 59) rfl (hb hby d1_55) (by decide) (by decide) k) ?_
        show OwnOut p e s below 0 0 _ (T.setTop (mkF m 59 #[.val (.int x0)] [(.int (1 : Int32))]))
        cases hr
        exact outZ X0 hx hret (hb hby d1_59) hlk (by decide) (by decide) ⟨rfl, e0, rfl⟩
def f1 (x0 : Int32) : Option (Int32) := (if x0 = (9 : Int32) then some ((1 : Int32)) else (if x0 = (10 : Int32) then some ((1 : Int32)) else (if x0 = (13 : Int32) then some ((1 : Int32)) else (if x0 < (32 : Int32) then (f1_30 x0) else (if (55295 : Int32) < x0 then (f1_30 x0) else some ((1 : Int32)))))))
set_option maxRecDepth 65536 in
set_option maxHeartbeats 40000000 in
theorem w1_0 {p : Program} {l : Launch} {e : Env} {s : State} {m : MethodId} {args : Array Value} {below : List Frame} {meth : Method} {c : Code} {Z : State} {a0 : Array Value} {h0 : Heap} (C : Cx1 Z a0 p s m meth c) :
    ∀ (T : State) (x0 : Int32) (o : Int32), f1 x0 = some o → Stand p l e rx1 s m args below meth c T [] 0 0 → T.heap = h0 →  OwnOut p e s below 0 0 (Q1 Z default h0 o) (T.setTop (mkF m 0 #[.val (.int x0)] [])) := by
    obtain ⟨hx, hZ, hw, hby, hml, hown, hret, hlk, hnm⟩ := C
    intro T x0 o hr X0 e0
    rw [f1] at hr
    refine OwnOut.go (fun t k => XS.iloadN X0.here hx rfl (hb hby d1_0) rfl k) ?_
    show OwnOut p e s below 0 0 _ (T.setTop (mkF m 1 #[.val (.int x0)] [(.int x0)]))
    refine OwnOut.go (fun t k => XT.bipushV X0.here hx rfl (9 : Int32) (hb hby d1_1) rfl k) ?_
    show OwnOut p e s below 0 0 _ (T.setTop (mkF m 3 #[.val (.int x0)] [(.int (9 : Int32)), (.int x0)]))
    by_cases hc3 : x0 = (9 : Int32)
    · rw [if_pos hc3] at hr
      refine OwnOut.go (fun t k => XS.icmpYes X0.here hx rfl (pc0 := 3) (pc' := 54) rfl (hb hby d1_3) rfl (XT.ii_eq_t hc3) (by decide) (by decide) k) ?_
      show OwnOut p e s below 0 0 _ (T.setTop (mkF m 54 #[.val (.int x0)] []))
      refine OwnOut.go (fun t k => XT.iconstV X0.here hx rfl (1 : Int32) (hb hby d1_54) rfl k) ?_
      show OwnOut p e s below 0 0 _ (T.setTop (mkF m 55 #[.val (.int x0)] [(.int (1 : Int32))]))
      refine OwnOut.go (fun t k => XS.goto X0.here hx rfl (pc0 := 55) (pc' := 59) rfl (hb hby d1_55) (by decide) (by decide) k) ?_
      show OwnOut p e s below 0 0 _ (T.setTop (mkF m 59 #[.val (.int x0)] [(.int (1 : Int32))]))
      cases hr
      exact outZ X0 hx hret (hb hby d1_59) hlk (by decide) (by decide) ⟨rfl, e0, rfl⟩
    · rw [if_neg hc3] at hr
      refine OwnOut.go (fun t k => XS.icmpNo X0.here hx rfl (hb hby d1_3) rfl (XT.ii_eq_f hc3) k) ?_
      show OwnOut p e s below 0 0 _ (T.setTop (mkF m 6 #[.val (.int x0)] []))
      refine OwnOut.go (fun t k => XS.iloadN X0.here hx rfl (hb hby d1_6) rfl k) ?_
      show OwnOut p e s below 0 0 _ (T.setTop (mkF m 7 #[.val (.int x0)] [(.int x0)]))
      refine OwnOut.go (fun t k => XT.bipushV X0.here hx rfl (10 : Int32) (hb hby d1_7) rfl k) ?_
      show OwnOut p e s below 0 0 _ (T.setTop (mkF m 9 #[.val (.int x0)] [(.int (10 : Int32)), (.int x0)]))
      by_cases hc9 : x0 = (10 : Int32)
      · rw [if_pos hc9] at hr
        refine OwnOut.go (fun t k => XS.icmpYes X0.here hx rfl (pc0 := 9) (pc' := 54) rfl (hb hby d1_9) rfl (XT.ii_eq_t hc9) (by decide) (by decide) k) ?_
        show OwnOut p e s below 0 0 _ (T.setTop (mkF m 54 #[.val (.int x0)] []))
        refine OwnOut.go (fun t k => XT.iconstV X0.here hx rfl (1 : Int32) (hb hby d1_54) rfl k) ?_
        show OwnOut p e s below 0 0 _ (T.setTop (mkF m 55 #[.val (.int x0)] [(.int (1 : Int32))]))
        refine OwnOut.go (fun t k => XS.goto X0.here hx rfl (pc0 := 55) (pc' := 59) rfl (hb hby d1_55) (by decide) (by decide) k) ?_
        show OwnOut p e s below 0 0 _ (T.setTop (mkF m 59 #[.val (.int x0)] [(.int (1 : Int32))]))
        cases hr
        exact outZ X0 hx hret (hb hby d1_59) hlk (by decide) (by decide) ⟨rfl, e0, rfl⟩
      · rw [if_neg hc9] at hr
        refine OwnOut.go (fun t k => XS.icmpNo X0.here hx rfl (hb hby d1_9) rfl (XT.ii_eq_f hc9) k) ?_
        show OwnOut p e s below 0 0 _ (T.setTop (mkF m 12 #[.val (.int x0)] []))
        refine OwnOut.go (fun t k => XS.iloadN X0.here hx rfl (hb hby d1_12) rfl k) ?_
        show OwnOut p e s below 0 0 _ (T.setTop (mkF m 13 #[.val (.int x0)] [(.int x0)]))
        refine OwnOut.go (fun t k => XT.bipushV X0.here hx rfl (13 : Int32) (hb hby d1_13) rfl k) ?_
        show OwnOut p e s below 0 0 _ (T.setTop (mkF m 15 #[.val (.int x0)] [(.int (13 : Int32)), (.int x0)]))
        by_cases hc15 : x0 = (13 : Int32)
        · rw [if_pos hc15] at hr
          refine OwnOut.go (fun t k => XS.icmpYes X0.here hx rfl (pc0 := 15) (pc' := 54) rfl (hb hby d1_15) rfl (XT.ii_eq_t hc15) (by decide) (by decide) k) ?_
          show OwnOut p e s below 0 0 _ (T.setTop (mkF m 54 #[.val (.int x0)] []))
          refine OwnOut.go (fun t k => XT.iconstV X0.here hx rfl (1 : Int32) (hb hby d1_54) rfl k) ?_
          show OwnOut p e s below 0 0 _ (T.setTop (mkF m 55 #[.val (.int x0)] [(.int (1 : Int32))]))
          refine OwnOut.go (fun t k => XS.goto X0.here hx rfl (pc0 := 55) (pc' := 59) rfl (hb hby d1_55) (by decide) (by decide) k) ?_
          show OwnOut p e s below 0 0 _ (T.setTop (mkF m 59 #[.val (.int x0)] [(.int (1 : Int32))]))
          cases hr
          exact outZ X0 hx hret (hb hby d1_59) hlk (by decide) (by decide) ⟨rfl, e0, rfl⟩
        · rw [if_neg hc15] at hr
          refine OwnOut.go (fun t k => XS.icmpNo X0.here hx rfl (hb hby d1_15) rfl (XT.ii_eq_f hc15) k) ?_
          show OwnOut p e s below 0 0 _ (T.setTop (mkF m 18 #[.val (.int x0)] []))
          refine OwnOut.go (fun t k => XS.iloadN X0.here hx rfl (hb hby d1_18) rfl k) ?_
          show OwnOut p e s below 0 0 _ (T.setTop (mkF m 19 #[.val (.int x0)] [(.int x0)]))
          refine OwnOut.go (fun t k => XT.bipushV X0.here hx rfl (32 : Int32) (hb hby d1_19) rfl k) ?_
          show OwnOut p e s below 0 0 _ (T.setTop (mkF m 21 #[.val (.int x0)] [(.int (32 : Int32)), (.int x0)]))
          by_cases hc21 : x0 < (32 : Int32)
          · rw [if_pos hc21] at hr
            refine OwnOut.go (fun t k => XS.icmpYes X0.here hx rfl (pc0 := 21) (pc' := 30) rfl (hb hby d1_21) rfl (XT.ii_lt_t hc21) (by decide) (by decide) k) ?_
            show OwnOut p e s below 0 0 _ (T.setTop (mkF m 30 #[.val (.int x0)] []))
            exact w1_30 ⟨hx, hZ, hw, hby, hml, hown, hret, hlk, hnm⟩  _ x0 _ hr X0 e0
          · rw [if_neg hc21] at hr
            refine OwnOut.go (fun t k => XS.icmpNo X0.here hx rfl (hb hby d1_21) rfl (XT.ii_lt_f hc21) k) ?_
            show OwnOut p e s below 0 0 _ (T.setTop (mkF m 24 #[.val (.int x0)] []))
            refine OwnOut.go (fun t k => XS.iloadN X0.here hx rfl (hb hby d1_24) rfl k) ?_
            show OwnOut p e s below 0 0 _ (T.setTop (mkF m 25 #[.val (.int x0)] [(.int x0)]))
            refine OwnOut.go (fun t k => X0.ldcInt hx hown (mvT hZ (hw _ (List.mem_of_getElem? (i := 18) rfl))) (g := (mkF m 25 #[.val (.int x0)] [(.int x0)])) rfl (hb hby d1_25) _ k) ?_
            show OwnOut p e s below 0 0 _ (T.setTop (mkF m 27 #[.val (.int x0)] [(.int (55295 : Int32)), (.int x0)]))
            by_cases hc27 : (55295 : Int32) < x0
            · rw [if_pos hc27] at hr
              refine OwnOut.go (fun t k => XS.icmpNo X0.here hx rfl (hb hby d1_27) rfl (XT.ii_le_f hc27) k) ?_
              show OwnOut p e s below 0 0 _ (T.setTop (mkF m 30 #[.val (.int x0)] []))
              exact w1_30 ⟨hx, hZ, hw, hby, hml, hown, hret, hlk, hnm⟩  _ x0 _ hr X0 e0
            · rw [if_neg hc27] at hr
              refine OwnOut.go (fun t k => XS.icmpYes X0.here hx rfl (pc0 := 27) (pc' := 54) rfl (hb hby d1_27) rfl (XT.ii_le_t hc27) (by decide) (by decide) k) ?_
              show OwnOut p e s below 0 0 _ (T.setTop (mkF m 54 #[.val (.int x0)] []))
              refine OwnOut.go (fun t k => XT.iconstV X0.here hx rfl (1 : Int32) (hb hby d1_54) rfl k) ?_
              show OwnOut p e s below 0 0 _ (T.setTop (mkF m 55 #[.val (.int x0)] [(.int (1 : Int32))]))
              refine OwnOut.go (fun t k => XS.goto X0.here hx rfl (pc0 := 55) (pc' := 59) rfl (hb hby d1_55) (by decide) (by decide) k) ?_
              show OwnOut p e s below 0 0 _ (T.setTop (mkF m 59 #[.val (.int x0)] [(.int (1 : Int32))]))
              cases hr
              exact outZ X0 hx hret (hb hby d1_59) hlk (by decide) (by decide) ⟨rfl, e0, rfl⟩
set_option maxRecDepth 65536 in
set_option maxHeartbeats 40000000 in
theorem rm1 (l : Launch) (Z : State) (a0 : Array Value) (hw : ∀ d ∈ tables_1, d.before a0 Z = true) (ws : List Jvm.Cond) (x0 : Int32) (h0 : Heap) (o : Int32) (hr : f1 x0 = some o) :
    MetFree l (⟨"com/example/libnodeset/libnodeset/tree/XmlCharacters", "isChar", "(I)Z"⟩ : MethodName) (head1 (Jvm.Cond.code (⟨"com/example/libnodeset/libnodeset/tree/XmlCharacters", "isChar", "(I)Z"⟩ : MethodName) prog_200_method_2_code 1 (some .boolean) :: ws) rx1) (fun a U => a = #[(.int x0)] ∧ Z.Warmed39 U.vm ∧ U.heap = h0) (fun _ _ _ _ _ => True) (fun _ U o' U' => ∃ v L, o' = .returned v ∧ Q1 Z x0 h0 o v U'.heap L ∧ FrameEnd U o' U' L rx1.cells rx1.slots) := by
  refine MetFree.of_bodySF (plainFor_of_name pn1) hisR ?_
  intro p e s m args below meth c s₁ Bd hml0 hP hK
  obtain ⟨rfl, hZ, hh⟩ := hP
  have X0 : Stand p l e rx1 s m #[(.int x0)] below meth c s₁ [] 0 0 := Stand.of_body Bd
  have e0 : s₁.heap = h0 := by rw [← hh, Bd.state]; rfl
  exact OwnOut.at (ef1 m x0) (w1_0 ⟨Bd.exec, hZ, hw, Bd.bytes, hml0, findClass_of_methodNamed Bd.named, Bd.returns, Bd.notSynchronized, (name_of_methodNamed Bd.named Bd.method).1⟩ _ x0 o hr X0 e0  )
-- body 2 as 2: com/example/libnodeset/libnodeset/tree/XmlCharactersIsCharPinLaw.expected:(I)Z (touches nothing)
theorem d2_0 : decode method_2_code 0 = .ok (.iload_n 0, 1) := by decide +kernel
theorem d2_1 : decode method_2_code 1 = .ok (.ifCond .lt 9, 3) := by decide +kernel
theorem d2_4 : decode method_2_code 4 = .ok (.iload_n 0, 1) := by decide +kernel
theorem d2_5 : decode method_2_code 5 = .ok (.ldc 7, 2) := by decide +kernel
theorem d2_7 : decode method_2_code 7 = .ok (.if_icmp .le 5, 3) := by decide +kernel
theorem d2_10 : decode method_2_code 10 = .ok (.iconst 0, 1) := by decide +kernel
theorem d2_11 : decode method_2_code 11 = .ok (.ireturn, 1) := by decide +kernel
theorem d2_12 : decode method_2_code 12 = .ok (.iload_n 0, 1) := by decide +kernel
theorem d2_13 : decode method_2_code 13 = .ok (.bipush 32, 2) := by decide +kernel
theorem d2_15 : decode method_2_code 15 = .ok (.if_icmp .ge 27, 3) := by decide +kernel
theorem d2_18 : decode method_2_code 18 = .ok (.iload_n 0, 1) := by decide +kernel
theorem d2_19 : decode method_2_code 19 = .ok (.bipush 9, 2) := by decide +kernel
theorem d2_21 : decode method_2_code 21 = .ok (.if_icmp .eq 15, 3) := by decide +kernel
theorem d2_24 : decode method_2_code 24 = .ok (.iload_n 0, 1) := by decide +kernel
theorem d2_25 : decode method_2_code 25 = .ok (.bipush 10, 2) := by decide +kernel
theorem d2_27 : decode method_2_code 27 = .ok (.if_icmp .eq 9, 3) := by decide +kernel
theorem d2_30 : decode method_2_code 30 = .ok (.iload_n 0, 1) := by decide +kernel
theorem d2_31 : decode method_2_code 31 = .ok (.bipush 13, 2) := by decide +kernel
theorem d2_33 : decode method_2_code 33 = .ok (.if_icmp .ne 7, 3) := by decide +kernel
theorem d2_36 : decode method_2_code 36 = .ok (.iconst 1, 1) := by decide +kernel
theorem d2_37 : decode method_2_code 37 = .ok (.goto 4, 3) := by decide +kernel
theorem d2_40 : decode method_2_code 40 = .ok (.iconst 0, 1) := by decide +kernel
theorem d2_41 : decode method_2_code 41 = .ok (.ireturn, 1) := by decide +kernel
theorem d2_42 : decode method_2_code 42 = .ok (.iload_n 0, 1) := by decide +kernel
theorem d2_43 : decode method_2_code 43 = .ok (.ldc 8, 2) := by decide +kernel
theorem d2_45 : decode method_2_code 45 = .ok (.if_icmp .lt 11, 3) := by decide +kernel
theorem d2_48 : decode method_2_code 48 = .ok (.iload_n 0, 1) := by decide +kernel
theorem d2_49 : decode method_2_code 49 = .ok (.ldc 9, 2) := by decide +kernel
theorem d2_51 : decode method_2_code 51 = .ok (.if_icmp .gt 5, 3) := by decide +kernel
theorem d2_54 : decode method_2_code 54 = .ok (.iconst 0, 1) := by decide +kernel
theorem d2_55 : decode method_2_code 55 = .ok (.ireturn, 1) := by decide +kernel
theorem d2_56 : decode method_2_code 56 = .ok (.iload_n 0, 1) := by decide +kernel
theorem d2_57 : decode method_2_code 57 = .ok (.ldc 10, 2) := by decide +kernel
theorem d2_59 : decode method_2_code 59 = .ok (.if_icmp .eq 9, 3) := by decide +kernel
theorem d2_62 : decode method_2_code 62 = .ok (.iload_n 0, 1) := by decide +kernel
theorem d2_63 : decode method_2_code 63 = .ok (.ldc 11, 2) := by decide +kernel
theorem d2_65 : decode method_2_code 65 = .ok (.if_icmp .ne 5, 3) := by decide +kernel
theorem d2_68 : decode method_2_code 68 = .ok (.iconst 0, 1) := by decide +kernel
theorem d2_69 : decode method_2_code 69 = .ok (.ireturn, 1) := by decide +kernel
theorem d2_70 : decode method_2_code 70 = .ok (.iconst 1, 1) := by decide +kernel
theorem d2_71 : decode method_2_code 71 = .ok (.ireturn, 1) := by decide +kernel
theorem pn2 : plainName "com/example/libnodeset/libnodeset/tree/XmlCharactersIsCharPinLaw" = true := by first | (simp [plainName, overriddenIn]; done) | decide +kernel
theorem pd2 : parseMethodDescriptor "(I)Z" = some ⟨[.int], some .boolean⟩ := by decide +kernel
theorem ef2 (m : MethodId) (x0 : Int32) : entryFrame m #[(.int x0)] 1 = mkF m 0 #[.val (.int x0)] [] := by first | (simp [entryFrame, mkF, argsToLocals, Value.category]; done) | rfl
abbrev rx2 : Room := { frames := 0, cells := 0, slots := 0, locals := 0 }
abbrev Cx2 (Z : State) (a0 : Array Value) (p : Program) (s : State) (m : MethodId) (meth : Method) (c : Code) : Prop := p.tables.exec = Jvm.exec ∧ Z.Warmed39 s.vm ∧ (∀ d ∈ tables_1, d.before a0 Z = true) ∧ c.code = method_2_code ∧ c.maxLocals = 1 ∧ s.vm.findClass "com/example/libnodeset/libnodeset/tree/XmlCharactersIsCharPinLaw" = some m.cls ∧ meth.sig.returnType = (some .boolean) ∧ meth.locks = false ∧ meth.name = "expected"
def Q2 (Z : State) (x0 : Int32) (h0 : Heap) (o : Int32) (v : Option Value) (h : Heap) (L : List Loc) : Prop := v = some (.int o) ∧ h = h0 ∧ L = []
def f2_56 (x0 : Int32) : Option (Int32) := (if x0 = (65534 : Int32) then some ((0 : Int32)) else (if x0 = (65535 : Int32) then some ((0 : Int32)) else some ((1 : Int32))))
set_option maxRecDepth 65536 in
set_option maxHeartbeats 40000000 in
theorem w2_56 {p : Program} {l : Launch} {e : Env} {s : State} {m : MethodId} {args : Array Value} {below : List Frame} {meth : Method} {c : Code} {Z : State} {a0 : Array Value} {h0 : Heap} (C : Cx2 Z a0 p s m meth c) :
    ∀ (T : State) (x0 : Int32) (o : Int32), f2_56 x0 = some o → Stand p l e rx2 s m args below meth c T [] 0 0 → T.heap = h0 →  OwnOut p e s below 0 0 (Q2 Z default h0 o) (T.setTop (mkF m 56 #[.val (.int x0)] [])) := by
    obtain ⟨hx, hZ, hw, hby, hml, hown, hret, hlk, hnm⟩ := C
    intro T x0 o hr X0 e0
    rw [f2_56] at hr
    refine OwnOut.go (fun t k => XS.iloadN X0.here hx rfl (hb hby d2_56) rfl k) ?_
    show OwnOut p e s below 0 0 _ (T.setTop (mkF m 57 #[.val (.int x0)] [(.int x0)]))
    refine OwnOut.go (fun t k => X0.ldcInt hx hown (mvT hZ (hw _ (List.mem_of_getElem? (i := 3) rfl))) (g := (mkF m 57 #[.val (.int x0)] [(.int x0)])) rfl (hb hby d2_57) _ k) ?_
    show OwnOut p e s below 0 0 _ (T.setTop (mkF m 59 #[.val (.int x0)] [(.int (65534 : Int32)), (.int x0)]))
    by_cases hc59 : x0 = (65534 : Int32)
    · rw [if_pos hc59] at hr
      refine OwnOut.go (fun t k => XS.icmpYes X0.here hx rfl (pc0 := 59) (pc' := 68) rfl (hb hby d2_59) rfl (XT.ii_eq_t hc59) (by decide) (by decide) k) ?_
      show OwnOut p e s below 0 0 _ (T.setTop (mkF m 68 #[.val (.int x0)] []))
      refine OwnOut.go (fun t k => XT.iconstV X0.here hx rfl (0 : Int32) (hb hby d2_68) rfl k) ?_
      show OwnOut p e s below 0 0 _ (T.setTop (mkF m 69 #[.val (.int x0)] [(.int (0 : Int32))]))
      cases hr
      exact outZ X0 hx hret (hb hby d2_69) hlk (by decide) (by decide) ⟨rfl, e0, rfl⟩
    · rw [if_neg hc59] at hr
      refine OwnOut.go (fun t k => XS.icmpNo X0.here hx rfl (hb hby d2_59) rfl (XT.ii_eq_f hc59) k) ?_
      show OwnOut p e s below 0 0 _ (T.setTop (mkF m 62 #[.val (.int x0)] []))
      refine OwnOut.go (fun t k => XS.iloadN X0.here hx rfl (hb hby d2_62) rfl k) ?_
      show OwnOut p e s below 0 0 _ (T.setTop (mkF m 63 #[.val (.int x0)] [(.int x0)]))
      refine OwnOut.go (fun t k => X0.ldcInt hx hown (mvT hZ (hw _ (List.mem_of_getElem? (i := 19) rfl))) (g := (mkF m 63 #[.val (.int x0)] [(.int x0)])) rfl (hb hby d2_63) _ k) ?_
      show OwnOut p e s below 0 0 _ (T.setTop (mkF m 65 #[.val (.int x0)] [(.int (65535 : Int32)), (.int x0)]))
      by_cases hc65 : x0 = (65535 : Int32)
      · rw [if_pos hc65] at hr
        refine OwnOut.go (fun t k => XS.icmpNo X0.here hx rfl (hb hby d2_65) rfl (XT.ii_ne_f hc65) k) ?_
        show OwnOut p e s below 0 0 _ (T.setTop (mkF m 68 #[.val (.int x0)] []))
        refine OwnOut.go (fun t k => XT.iconstV X0.here hx rfl (0 : Int32) (hb hby d2_68) rfl k) ?_
        show OwnOut p e s below 0 0 _ (T.setTop (mkF m 69 #[.val (.int x0)] [(.int (0 : Int32))]))
        cases hr
        exact outZ X0 hx hret (hb hby d2_69) hlk (by decide) (by decide) ⟨rfl, e0, rfl⟩
      · rw [if_neg hc65] at hr
        refine OwnOut.go (fun t k => XS.icmpYes X0.here hx rfl (pc0 := 65) (pc' := 70) rfl (hb hby d2_65) rfl (XT.ii_ne_t hc65) (by decide) (by decide) k) ?_
        show OwnOut p e s below 0 0 _ (T.setTop (mkF m 70 #[.val (.int x0)] []))
        refine OwnOut.go (fun t k => XT.iconstV X0.here hx rfl (1 : Int32) (hb hby d2_70) rfl k) ?_
        show OwnOut p e s below 0 0 _ (T.setTop (mkF m 71 #[.val (.int x0)] [(.int (1 : Int32))]))
        cases hr
        exact outZ X0 hx hret (hb hby d2_71) hlk (by decide) (by decide) ⟨rfl, e0, rfl⟩
def f2 (x0 : Int32) : Option (Int32) := (if x0 < (0 : Int32) then some ((0 : Int32)) else (if (1114111 : Int32) < x0 then some ((0 : Int32)) else (if x0 < (32 : Int32) then (if x0 = (9 : Int32) then some ((1 : Int32)) else (if x0 = (10 : Int32) then some ((1 : Int32)) else (if x0 = (13 : Int32) then some ((1 : Int32)) else some ((0 : Int32))))) else (if x0 < (55296 : Int32) then (f2_56 x0) else (if (57343 : Int32) < x0 then (f2_56 x0) else some ((0 : Int32)))))))
set_option maxRecDepth 65536 in
set_option maxHeartbeats 40000000 in
theorem w2_0 {p : Program} {l : Launch} {e : Env} {s : State} {m : MethodId} {args : Array Value} {below : List Frame} {meth : Method} {c : Code} {Z : State} {a0 : Array Value} {h0 : Heap} (C : Cx2 Z a0 p s m meth c) :
    ∀ (T : State) (x0 : Int32) (o : Int32), f2 x0 = some o → Stand p l e rx2 s m args below meth c T [] 0 0 → T.heap = h0 →  OwnOut p e s below 0 0 (Q2 Z default h0 o) (T.setTop (mkF m 0 #[.val (.int x0)] [])) := by
    obtain ⟨hx, hZ, hw, hby, hml, hown, hret, hlk, hnm⟩ := C
    intro T x0 o hr X0 e0
    rw [f2] at hr
    refine OwnOut.go (fun t k => XS.iloadN X0.here hx rfl (hb hby d2_0) rfl k) ?_
    show OwnOut p e s below 0 0 _ (T.setTop (mkF m 1 #[.val (.int x0)] [(.int x0)]))
    by_cases hc1 : x0 < (0 : Int32)
    · rw [if_pos hc1] at hr
      refine OwnOut.go (fun t k => XS.ifYes X0.here hx rfl (pc0 := 1) (pc' := 10) rfl (hb hby d2_1) rfl (XT.i0_lt_t hc1) (by decide) (by decide) k) ?_
      show OwnOut p e s below 0 0 _ (T.setTop (mkF m 10 #[.val (.int x0)] []))
      refine OwnOut.go (fun t k => XT.iconstV X0.here hx rfl (0 : Int32) (hb hby d2_10) rfl k) ?_
      show OwnOut p e s below 0 0 _ (T.setTop (mkF m 11 #[.val (.int x0)] [(.int (0 : Int32))]))
      cases hr
      exact outZ X0 hx hret (hb hby d2_11) hlk (by decide) (by decide) ⟨rfl, e0, rfl⟩
    · rw [if_neg hc1] at hr
      refine OwnOut.go (fun t k => XS.ifNo X0.here hx rfl (hb hby d2_1) rfl (XT.i0_lt_f hc1) k) ?_
      show OwnOut p e s below 0 0 _ (T.setTop (mkF m 4 #[.val (.int x0)] []))
      refine OwnOut.go (fun t k => XS.iloadN X0.here hx rfl (hb hby d2_4) rfl k) ?_
      show OwnOut p e s below 0 0 _ (T.setTop (mkF m 5 #[.val (.int x0)] [(.int x0)]))
      refine OwnOut.go (fun t k => X0.ldcInt hx hown (mvT hZ (hw _ (List.mem_of_getElem? (i := 16) rfl))) (g := (mkF m 5 #[.val (.int x0)] [(.int x0)])) rfl (hb hby d2_5) _ k) ?_
      show OwnOut p e s below 0 0 _ (T.setTop (mkF m 7 #[.val (.int x0)] [(.int (1114111 : Int32)), (.int x0)]))
      by_cases hc7 : (1114111 : Int32) < x0
      · rw [if_pos hc7] at hr
        refine OwnOut.go (fun t k => XS.icmpNo X0.here hx rfl (hb hby d2_7) rfl (XT.ii_le_f hc7) k) ?_
        show OwnOut p e s below 0 0 _ (T.setTop (mkF m 10 #[.val (.int x0)] []))
        refine OwnOut.go (fun t k => XT.iconstV X0.here hx rfl (0 : Int32) (hb hby d2_10) rfl k) ?_
        show OwnOut p e s below 0 0 _ (T.setTop (mkF m 11 #[.val (.int x0)] [(.int (0 : Int32))]))
        cases hr
        exact outZ X0 hx hret (hb hby d2_11) hlk (by decide) (by decide) ⟨rfl, e0, rfl⟩
      · rw [if_neg hc7] at hr
        refine OwnOut.go (fun t k => XS.icmpYes X0.here hx rfl (pc0 := 7) (pc' := 12) rfl (hb hby d2_7) rfl (XT.ii_le_t hc7) (by decide) (by decide) k) ?_
        show OwnOut p e s below 0 0 _ (T.setTop (mkF m 12 #[.val (.int x0)] []))
        refine OwnOut.go (fun t k => XS.iloadN X0.here hx rfl (hb hby d2_12) rfl k) ?_
        show OwnOut p e s below 0 0 _ (T.setTop (mkF m 13 #[.val (.int x0)] [(.int x0)]))
        refine OwnOut.go (fun t k => XT.bipushV X0.here hx rfl (32 : Int32) (hb hby d2_13) rfl k) ?_
        show OwnOut p e s below 0 0 _ (T.setTop (mkF m 15 #[.val (.int x0)] [(.int (32 : Int32)), (.int x0)]))
        by_cases hc15 : x0 < (32 : Int32)
        · rw [if_pos hc15] at hr
          refine OwnOut.go (fun t k => XS.icmpNo X0.here hx rfl (hb hby d2_15) rfl (XT.ii_ge_f hc15) k) ?_
          show OwnOut p e s below 0 0 _ (T.setTop (mkF m 18 #[.val (.int x0)] []))
          refine OwnOut.go (fun t k => XS.iloadN X0.here hx rfl (hb hby d2_18) rfl k) ?_
          show OwnOut p e s below 0 0 _ (T.setTop (mkF m 19 #[.val (.int x0)] [(.int x0)]))
          refine OwnOut.go (fun t k => XT.bipushV X0.here hx rfl (9 : Int32) (hb hby d2_19) rfl k) ?_
          show OwnOut p e s below 0 0 _ (T.setTop (mkF m 21 #[.val (.int x0)] [(.int (9 : Int32)), (.int x0)]))
          by_cases hc21 : x0 = (9 : Int32)
          · rw [if_pos hc21] at hr
            refine OwnOut.go (fun t k => XS.icmpYes X0.here hx rfl (pc0 := 21) (pc' := 36) rfl (hb hby d2_21) rfl (XT.ii_eq_t hc21) (by decide) (by decide) k) ?_
            show OwnOut p e s below 0 0 _ (T.setTop (mkF m 36 #[.val (.int x0)] []))
            refine OwnOut.go (fun t k => XT.iconstV X0.here hx rfl (1 : Int32) (hb hby d2_36) rfl k) ?_
            show OwnOut p e s below 0 0 _ (T.setTop (mkF m 37 #[.val (.int x0)] [(.int (1 : Int32))]))
            refine OwnOut.go (fun t k => XS.goto X0.here hx rfl (pc0 := 37) (pc' := 41) rfl (hb hby d2_37) (by decide) (by decide) k) ?_
            show OwnOut p e s below 0 0 _ (T.setTop (mkF m 41 #[.val (.int x0)] [(.int (1 : Int32))]))
            cases hr
            exact outZ X0 hx hret (hb hby d2_41) hlk (by decide) (by decide) ⟨rfl, e0, rfl⟩
          · rw [if_neg hc21] at hr
            refine OwnOut.go (fun t k => XS.icmpNo X0.here hx rfl (hb hby d2_21) rfl (XT.ii_eq_f hc21) k) ?_
            show OwnOut p e s below 0 0 _ (T.setTop (mkF m 24 #[.val (.int x0)] []))
            refine OwnOut.go (fun t k => XS.iloadN X0.here hx rfl (hb hby d2_24) rfl k) ?_
            show OwnOut p e s below 0 0 _ (T.setTop (mkF m 25 #[.val (.int x0)] [(.int x0)]))
            refine OwnOut.go (fun t k => XT.bipushV X0.here hx rfl (10 : Int32) (hb hby d2_25) rfl k) ?_
            show OwnOut p e s below 0 0 _ (T.setTop (mkF m 27 #[.val (.int x0)] [(.int (10 : Int32)), (.int x0)]))
            by_cases hc27 : x0 = (10 : Int32)
            · rw [if_pos hc27] at hr
              refine OwnOut.go (fun t k => XS.icmpYes X0.here hx rfl (pc0 := 27) (pc' := 36) rfl (hb hby d2_27) rfl (XT.ii_eq_t hc27) (by decide) (by decide) k) ?_
              show OwnOut p e s below 0 0 _ (T.setTop (mkF m 36 #[.val (.int x0)] []))
              refine OwnOut.go (fun t k => XT.iconstV X0.here hx rfl (1 : Int32) (hb hby d2_36) rfl k) ?_
              show OwnOut p e s below 0 0 _ (T.setTop (mkF m 37 #[.val (.int x0)] [(.int (1 : Int32))]))
              refine OwnOut.go (fun t k => XS.goto X0.here hx rfl (pc0 := 37) (pc' := 41) rfl (hb hby d2_37) (by decide) (by decide) k) ?_
              show OwnOut p e s below 0 0 _ (T.setTop (mkF m 41 #[.val (.int x0)] [(.int (1 : Int32))]))
              cases hr
              exact outZ X0 hx hret (hb hby d2_41) hlk (by decide) (by decide) ⟨rfl, e0, rfl⟩
            · rw [if_neg hc27] at hr
              refine OwnOut.go (fun t k => XS.icmpNo X0.here hx rfl (hb hby d2_27) rfl (XT.ii_eq_f hc27) k) ?_
              show OwnOut p e s below 0 0 _ (T.setTop (mkF m 30 #[.val (.int x0)] []))
              refine OwnOut.go (fun t k => XS.iloadN X0.here hx rfl (hb hby d2_30) rfl k) ?_
              show OwnOut p e s below 0 0 _ (T.setTop (mkF m 31 #[.val (.int x0)] [(.int x0)]))
              refine OwnOut.go (fun t k => XT.bipushV X0.here hx rfl (13 : Int32) (hb hby d2_31) rfl k) ?_
              show OwnOut p e s below 0 0 _ (T.setTop (mkF m 33 #[.val (.int x0)] [(.int (13 : Int32)), (.int x0)]))
              by_cases hc33 : x0 = (13 : Int32)
              · rw [if_pos hc33] at hr
                refine OwnOut.go (fun t k => XS.icmpNo X0.here hx rfl (hb hby d2_33) rfl (XT.ii_ne_f hc33) k) ?_
                show OwnOut p e s below 0 0 _ (T.setTop (mkF m 36 #[.val (.int x0)] []))
                refine OwnOut.go (fun t k => XT.iconstV X0.here hx rfl (1 : Int32) (hb hby d2_36) rfl k) ?_
                show OwnOut p e s below 0 0 _ (T.setTop (mkF m 37 #[.val (.int x0)] [(.int (1 : Int32))]))
                refine OwnOut.go (fun t k => XS.goto X0.here hx rfl (pc0 := 37) (pc' := 41) rfl (hb hby d2_37) (by decide) (by decide) k) ?_
                show OwnOut p e s below 0 0 _ (T.setTop (mkF m 41 #[.val (.int x0)] [(.int (1 : Int32))]))
                cases hr
                exact outZ X0 hx hret (hb hby d2_41) hlk (by decide) (by decide) ⟨rfl, e0, rfl⟩
              · rw [if_neg hc33] at hr
                refine OwnOut.go (fun t k => XS.icmpYes X0.here hx rfl (pc0 := 33) (pc' := 40) rfl (hb hby d2_33) rfl (XT.ii_ne_t hc33) (by decide) (by decide) k) ?_
                show OwnOut p e s below 0 0 _ (T.setTop (mkF m 40 #[.val (.int x0)] []))
                refine OwnOut.go (fun t k => XT.iconstV X0.here hx rfl (0 : Int32) (hb hby d2_40) rfl k) ?_
                show OwnOut p e s below 0 0 _ (T.setTop (mkF m 41 #[.val (.int x0)] [(.int (0 : Int32))]))
                cases hr
                exact outZ X0 hx hret (hb hby d2_41) hlk (by decide) (by decide) ⟨rfl, e0, rfl⟩
        · rw [if_neg hc15] at hr
          refine OwnOut.go (fun t k => XS.icmpYes X0.here hx rfl (pc0 := 15) (pc' := 42) rfl (hb hby d2_15) rfl (XT.ii_ge_t hc15) (by decide) (by decide) k) ?_
          show OwnOut p e s below 0 0 _ (T.setTop (mkF m 42 #[.val (.int x0)] []))
          refine OwnOut.go (fun t k => XS.iloadN X0.here hx rfl (hb hby d2_42) rfl k) ?_
          show OwnOut p e s below 0 0 _ (T.setTop (mkF m 43 #[.val (.int x0)] [(.int x0)]))
          refine OwnOut.go (fun t k => X0.ldcInt hx hown (mvT hZ (hw _ (List.mem_of_getElem? (i := 1) rfl))) (g := (mkF m 43 #[.val (.int x0)] [(.int x0)])) rfl (hb hby d2_43) _ k) ?_
          show OwnOut p e s below 0 0 _ (T.setTop (mkF m 45 #[.val (.int x0)] [(.int (55296 : Int32)), (.int x0)]))
          by_cases hc45 : x0 < (55296 : Int32)
          · rw [if_pos hc45] at hr
            refine OwnOut.go (fun t k => XS.icmpYes X0.here hx rfl (pc0 := 45) (pc' := 56) rfl (hb hby d2_45) rfl (XT.ii_lt_t hc45) (by decide) (by decide) k) ?_
            show OwnOut p e s below 0 0 _ (T.setTop (mkF m 56 #[.val (.int x0)] []))
            exact w2_56 ⟨hx, hZ, hw, hby, hml, hown, hret, hlk, hnm⟩  _ x0 _ hr X0 e0
          · rw [if_neg hc45] at hr
            refine OwnOut.go (fun t k => XS.icmpNo X0.here hx rfl (hb hby d2_45) rfl (XT.ii_lt_f hc45) k) ?_
            show OwnOut p e s below 0 0 _ (T.setTop (mkF m 48 #[.val (.int x0)] []))
            refine OwnOut.go (fun t k => XS.iloadN X0.here hx rfl (hb hby d2_48) rfl k) ?_
            show OwnOut p e s below 0 0 _ (T.setTop (mkF m 49 #[.val (.int x0)] [(.int x0)]))
            refine OwnOut.go (fun t k => X0.ldcInt hx hown (mvT hZ (hw _ (List.mem_of_getElem? (i := 22) rfl))) (g := (mkF m 49 #[.val (.int x0)] [(.int x0)])) rfl (hb hby d2_49) _ k) ?_
            show OwnOut p e s below 0 0 _ (T.setTop (mkF m 51 #[.val (.int x0)] [(.int (57343 : Int32)), (.int x0)]))
            by_cases hc51 : (57343 : Int32) < x0
            · rw [if_pos hc51] at hr
              refine OwnOut.go (fun t k => XS.icmpYes X0.here hx rfl (pc0 := 51) (pc' := 56) rfl (hb hby d2_51) rfl (XT.ii_gt_t hc51) (by decide) (by decide) k) ?_
              show OwnOut p e s below 0 0 _ (T.setTop (mkF m 56 #[.val (.int x0)] []))
              exact w2_56 ⟨hx, hZ, hw, hby, hml, hown, hret, hlk, hnm⟩  _ x0 _ hr X0 e0
            · rw [if_neg hc51] at hr
              refine OwnOut.go (fun t k => XS.icmpNo X0.here hx rfl (hb hby d2_51) rfl (XT.ii_gt_f hc51) k) ?_
              show OwnOut p e s below 0 0 _ (T.setTop (mkF m 54 #[.val (.int x0)] []))
              refine OwnOut.go (fun t k => XT.iconstV X0.here hx rfl (0 : Int32) (hb hby d2_54) rfl k) ?_
              show OwnOut p e s below 0 0 _ (T.setTop (mkF m 55 #[.val (.int x0)] [(.int (0 : Int32))]))
              cases hr
              exact outZ X0 hx hret (hb hby d2_55) hlk (by decide) (by decide) ⟨rfl, e0, rfl⟩
set_option maxRecDepth 65536 in
set_option maxHeartbeats 40000000 in
theorem rm2 (l : Launch) (Z : State) (a0 : Array Value) (hw : ∀ d ∈ tables_1, d.before a0 Z = true) (ws : List Jvm.Cond) (x0 : Int32) (h0 : Heap) (o : Int32) (hr : f2 x0 = some o) :
    MetFree l (⟨"com/example/libnodeset/libnodeset/tree/XmlCharactersIsCharPinLaw", "expected", "(I)Z"⟩ : MethodName) (head1 (Jvm.Cond.code (⟨"com/example/libnodeset/libnodeset/tree/XmlCharactersIsCharPinLaw", "expected", "(I)Z"⟩ : MethodName) method_2_code 1 (some .boolean) :: ws) rx2) (fun a U => a = #[(.int x0)] ∧ Z.Warmed39 U.vm ∧ U.heap = h0) (fun _ _ _ _ _ => True) (fun _ U o' U' => ∃ v L, o' = .returned v ∧ Q2 Z x0 h0 o v U'.heap L ∧ FrameEnd U o' U' L rx2.cells rx2.slots) := by
  refine MetFree.of_bodySF (plainFor_of_name pn2) hisR ?_
  intro p e s m args below meth c s₁ Bd hml0 hP hK
  obtain ⟨rfl, hZ, hh⟩ := hP
  have X0 : Stand p l e rx2 s m #[(.int x0)] below meth c s₁ [] 0 0 := Stand.of_body Bd
  have e0 : s₁.heap = h0 := by rw [← hh, Bd.state]; rfl
  exact OwnOut.at (ef2 m x0) (w2_0 ⟨Bd.exec, hZ, hw, Bd.bytes, hml0, findClass_of_methodNamed Bd.named, Bd.returns, Bd.notSynchronized, (name_of_methodNamed Bd.named Bd.method).1⟩ _ x0 o hr X0 e0  )
-- body 0 as 0: com/example/libnodeset/libnodeset/tree/XmlCharactersIsCharPinLaw.law:(II)Z
theorem pn0 : plainName "com/example/libnodeset/libnodeset/tree/XmlCharactersIsCharPinLaw" = true := by first | (simp [plainName, overriddenIn]; done) | decide +kernel
theorem pd0 : parseMethodDescriptor "(II)Z" = some ⟨[.int, .int], some .boolean⟩ := by decide +kernel
theorem ef0 (m : MethodId) (x0 : Int32) (x1 : Int32) : entryFrame m #[(.int x0), (.int x1)] maxLocals = mkF m 0 #[.val (.int x0), .val (.int x1), .unset, .unset, .unset] [] := by first | (simp [entryFrame, mkF, argsToLocals, Value.category, maxLocals]; done) | rfl
abbrev Cx0 (Z : State) (a0 : Array Value) (p : Program) (s : State) (m : MethodId) (meth : Method) (c : Code) : Prop := p.tables.exec = Jvm.exec ∧ Z.Warmed39 s.vm ∧ (∀ d ∈ tables_1, d.before a0 Z = true) ∧ c.code = code ∧ c.maxLocals = 5 ∧ s.vm.findClass "com/example/libnodeset/libnodeset/tree/XmlCharactersIsCharPinLaw" = some m.cls ∧ meth.sig.returnType = (some .boolean) ∧ meth.locks = false ∧ meth.name = "law"
def Q0 (Z : State) (x0 : Int32) (x1 : Int32) (h0 : Heap) (n0 : Nat) (o : Int32) (v : Option Value) (h : Heap) (L : List Loc) : Prop := v = some (.int o) ∧ Fr n0 L
def f0_103 (x3 : Int32) : Option (Int32) := ((f1 x3).bind fun o1 => ((f2 x3).bind fun o2 => (if o1 = o2 then some ((1 : Int32)) else some ((0 : Int32)))))
set_option maxRecDepth 65536 in
set_option maxHeartbeats 40000000 in
theorem w0_103 {p : Program} {l : Launch} {e : Env} {s : State} {m : MethodId} {args : Array Value} {below : List Frame} {meth : Method} {c : Code} {Z : State} {a0 : Array Value} {h0 : Heap} {n0 : Nat} (C : Cx0 Z a0 p s m meth c) :
    ∀ (T : State) (locs : List Loc) (h1 : Heap) (x0 : Int32) (x1 : Int32) (x2 : Int32) (x3 : Int32) (o : Int32), f0_103 x3 = some o → Stand p l e room_1 s m args below meth c T locs 0 0 → T.heap = h1 → Fr n0 locs → Old Z n0 h1 → Keep h0 h1 [] →  OwnOut p e s below 16 128 (Q0 Z default default h0 n0 o) (T.setTop (mkF m 103 #[.val (.int x0), .val (.int x1), .val (.int x2), .val (.int x3), .unset] [])) := by
    obtain ⟨hx, hZ, hw, hby, hml, hown, hret, hlk, hnm⟩ := C
    intro T locs h1 x0 x1 x2 x3 o hr X0 e0 N0 O0 K0
    rw [f0_103] at hr
    refine OwnOut.go (fun t k => XS.iloadN X0.here hx rfl (hb hby at_103) rfl k) ?_
    show OwnOut p e s below 16 128 _ (T.setTop (mkF m 104 #[.val (.int x0), .val (.int x1), .val (.int x2), .val (.int x3), .unset] [(.int x3)]))
    obtain ⟨o1, ho1, hr⟩ := Option.bind_eq_some_iff.mp hr
    obtain ⟨r1, T1, L1, X1', hQ1, st1⟩ := callQ (W := 0) (rm := rx1) X0 hx hZ (y := (⟨"com/example/libnodeset/libnodeset/tree/XmlCharacters", "isChar", "(I)Z"⟩ : MethodName)) hown (hw _ (List.mem_of_getElem? (i := 6) rfl)) (hw _ (List.mem_of_getElem? (i := 7) rfl)) (hw _ (List.mem_of_getElem? (i := 8) rfl)) (hw _ (List.mem_of_getElem? (i := 9) rfl)) (by decide) (rm1 l Z a0 hw [] x3 h1 o1 ho1 ) (by decide) (by decide) (by decide) (by decide) e0 (g := (mkF m 104 #[.val (.int x0), .val (.int x1), .val (.int x2), .val (.int x3), .unset] [(.int x3)])) rfl (by rw [hml]; rfl) (argsL := [(.int x3)]) (rest := []) (lenOf pd1 rfl) rfl (by show 2 * 0 + _ ≤ _; exact Nat.le_of_eq rfl) (hb hby at_104)
    obtain ⟨rfl, e1, rfl⟩ := hQ1
    rw [List.append_nil] at X1'
    have X1 : Stand p l e room_1 s m args below meth c T1 _ 0 0 := X1'
    refine OwnOut.go (fun t k => st1 _ k) ?_
    show OwnOut p e s below 16 128 _ (T1.setTop (mkF m 107 #[.val (.int x0), .val (.int x1), .val (.int x2), .val (.int x3), .unset] [(.int o1)]))
    refine OwnOut.go (fun t k => XS.iloadN X1.here hx rfl (hb hby at_107) rfl k) ?_
    show OwnOut p e s below 16 128 _ (T1.setTop (mkF m 108 #[.val (.int x0), .val (.int x1), .val (.int x2), .val (.int x3), .unset] [(.int x3), (.int o1)]))
    obtain ⟨o2, ho2, hr⟩ := Option.bind_eq_some_iff.mp hr
    obtain ⟨r2, T2, L2, X2', hQ2, st2⟩ := callQ (W := 1) (rm := rx2) X1 hx hZ (y := (⟨"com/example/libnodeset/libnodeset/tree/XmlCharactersIsCharPinLaw", "expected", "(I)Z"⟩ : MethodName)) hown (hw _ (List.mem_of_getElem? (i := 12) rfl)) (hw _ (List.mem_of_getElem? (i := 13) rfl)) (hw _ (List.mem_of_getElem? (i := 14) rfl)) (hw _ (List.mem_of_getElem? (i := 15) rfl)) (by decide) (rm2 l Z a0 hw [] x3 h1 o2 ho2 ) (by decide) (by decide) (by decide) (by decide) e1 (g := (mkF m 108 #[.val (.int x0), .val (.int x1), .val (.int x2), .val (.int x3), .unset] [(.int x3), (.int o1)])) rfl (by rw [hml]; rfl) (argsL := [(.int x3)]) (rest := [(.int o1)]) (lenOf pd2 rfl) rfl (by show 2 * 0 + _ ≤ _; exact Nat.le_of_eq rfl) (hb hby at_108)
    obtain ⟨rfl, e2, rfl⟩ := hQ2
    rw [List.append_nil] at X2'
    have X2 : Stand p l e room_1 s m args below meth c T2 _ 0 0 := X2'
    refine OwnOut.go (fun t k => st2 _ k) ?_
    show OwnOut p e s below 16 128 _ (T2.setTop (mkF m 111 #[.val (.int x0), .val (.int x1), .val (.int x2), .val (.int x3), .unset] [(.int o2), (.int o1)]))
    by_cases hc111 : o1 = o2
    · rw [if_pos hc111] at hr
      refine OwnOut.go (fun t k => XS.icmpNo X2.here hx rfl (hb hby at_111) rfl (XT.ii_ne_f hc111) k) ?_
      show OwnOut p e s below 16 128 _ (T2.setTop (mkF m 114 #[.val (.int x0), .val (.int x1), .val (.int x2), .val (.int x3), .unset] []))
      refine OwnOut.go (fun t k => XT.iconstV X2.here hx rfl (1 : Int32) (hb hby at_114) rfl k) ?_
      show OwnOut p e s below 16 128 _ (T2.setTop (mkF m 115 #[.val (.int x0), .val (.int x1), .val (.int x2), .val (.int x3), .unset] [(.int (1 : Int32))]))
      refine OwnOut.go (fun t k => XS.goto X2.here hx rfl (pc0 := 115) (pc' := 119) rfl (hb hby at_115) (by decide) (by decide) k) ?_
      show OwnOut p e s below 16 128 _ (T2.setTop (mkF m 119 #[.val (.int x0), .val (.int x1), .val (.int x2), .val (.int x3), .unset] [(.int (1 : Int32))]))
      cases hr
      exact outZ X2 hx hret (hb hby at_119) hlk (by decide) (by decide) ⟨rfl, N0⟩
    · rw [if_neg hc111] at hr
      refine OwnOut.go (fun t k => XS.icmpYes X2.here hx rfl (pc0 := 111) (pc' := 118) rfl (hb hby at_111) rfl (XT.ii_ne_t hc111) (by decide) (by decide) k) ?_
      show OwnOut p e s below 16 128 _ (T2.setTop (mkF m 118 #[.val (.int x0), .val (.int x1), .val (.int x2), .val (.int x3), .unset] []))
      refine OwnOut.go (fun t k => XT.iconstV X2.here hx rfl (0 : Int32) (hb hby at_118) rfl k) ?_
      show OwnOut p e s below 16 128 _ (T2.setTop (mkF m 119 #[.val (.int x0), .val (.int x1), .val (.int x2), .val (.int x3), .unset] [(.int (0 : Int32))]))
      cases hr
      exact outZ X2 hx hret (hb hby at_119) hlk (by decide) (by decide) ⟨rfl, N0⟩
set_option maxRecDepth 65536 in
set_option maxHeartbeats 40000000 in
theorem w0_103a {p : Program} {l : Launch} {e : Env} {s : State} {m : MethodId} {args : Array Value} {below : List Frame} {meth : Method} {c : Code} {Z : State} {a0 : Array Value} {h0 : Heap} {n0 : Nat} (C : Cx0 Z a0 p s m meth c) :
    ∀ (T : State) (locs : List Loc) (h1 : Heap) (x0 : Int32) (x1 : Int32) (x2 : Int32) (x3 : Int32) (b0 : Addr) (l0 : List Int32) (o : Int32), f0_103 x3 = some o → Stand p l e room_1 s m args below meth c T locs 1 8 → T.heap = h1 → Fr n0 locs → Old Z n0 h1 → Keep h0 h1 [] → (Ari Z h1 b0 .int l0) → (n0 ≤ b0) → (h0.size ≤ b0) →  OwnOut p e s below 16 128 (Q0 Z default default h0 n0 o) (T.setTop (mkF m 103 #[.val (.int x0), .val (.int x1), .val (.int x2), .val (.int x3), .val (.ref b0)] [])) := by
    obtain ⟨hx, hZ, hw, hby, hml, hown, hret, hlk, hnm⟩ := C
    intro T locs h1 x0 x1 x2 x3 b0 l0 o hr X0 e0 N0 O0 K0 A0 g0 z0
    rw [f0_103] at hr
    refine OwnOut.go (fun t k => XS.iloadN X0.here hx rfl (hb hby at_103) rfl k) ?_
    show OwnOut p e s below 16 128 _ (T.setTop (mkF m 104 #[.val (.int x0), .val (.int x1), .val (.int x2), .val (.int x3), .val (.ref b0)] [(.int x3)]))
    obtain ⟨o13, ho13, hr⟩ := Option.bind_eq_some_iff.mp hr
    obtain ⟨r13, T13, L13, X13', hQ13, st13⟩ := callQ (W := 0) (rm := rx1) X0 hx hZ (y := (⟨"com/example/libnodeset/libnodeset/tree/XmlCharacters", "isChar", "(I)Z"⟩ : MethodName)) hown (hw _ (List.mem_of_getElem? (i := 6) rfl)) (hw _ (List.mem_of_getElem? (i := 7) rfl)) (hw _ (List.mem_of_getElem? (i := 8) rfl)) (hw _ (List.mem_of_getElem? (i := 9) rfl)) (by decide) (rm1 l Z a0 hw [] x3 h1 o13 ho13 ) (by decide) (by decide) (by decide) (by decide) e0 (g := (mkF m 104 #[.val (.int x0), .val (.int x1), .val (.int x2), .val (.int x3), .val (.ref b0)] [(.int x3)])) rfl (by rw [hml]; rfl) (argsL := [(.int x3)]) (rest := []) (lenOf pd1 rfl) rfl (by show 2 * 0 + _ ≤ _; exact Nat.le_of_eq rfl) (hb hby at_104)
    obtain ⟨rfl, e13, rfl⟩ := hQ13
    rw [List.append_nil] at X13'
    have X13 : Stand p l e room_1 s m args below meth c T13 _ 1 8 := X13'
    refine OwnOut.go (fun t k => st13 _ k) ?_
    show OwnOut p e s below 16 128 _ (T13.setTop (mkF m 107 #[.val (.int x0), .val (.int x1), .val (.int x2), .val (.int x3), .val (.ref b0)] [(.int o13)]))
    refine OwnOut.go (fun t k => XS.iloadN X13.here hx rfl (hb hby at_107) rfl k) ?_
    show OwnOut p e s below 16 128 _ (T13.setTop (mkF m 108 #[.val (.int x0), .val (.int x1), .val (.int x2), .val (.int x3), .val (.ref b0)] [(.int x3), (.int o13)]))
    obtain ⟨o14, ho14, hr⟩ := Option.bind_eq_some_iff.mp hr
    obtain ⟨r14, T14, L14, X14', hQ14, st14⟩ := callQ (W := 1) (rm := rx2) X13 hx hZ (y := (⟨"com/example/libnodeset/libnodeset/tree/XmlCharactersIsCharPinLaw", "expected", "(I)Z"⟩ : MethodName)) hown (hw _ (List.mem_of_getElem? (i := 12) rfl)) (hw _ (List.mem_of_getElem? (i := 13) rfl)) (hw _ (List.mem_of_getElem? (i := 14) rfl)) (hw _ (List.mem_of_getElem? (i := 15) rfl)) (by decide) (rm2 l Z a0 hw [] x3 h1 o14 ho14 ) (by decide) (by decide) (by decide) (by decide) e13 (g := (mkF m 108 #[.val (.int x0), .val (.int x1), .val (.int x2), .val (.int x3), .val (.ref b0)] [(.int x3), (.int o13)])) rfl (by rw [hml]; rfl) (argsL := [(.int x3)]) (rest := [(.int o13)]) (lenOf pd2 rfl) rfl (by show 2 * 0 + _ ≤ _; exact Nat.le_of_eq rfl) (hb hby at_108)
    obtain ⟨rfl, e14, rfl⟩ := hQ14
    rw [List.append_nil] at X14'
    have X14 : Stand p l e room_1 s m args below meth c T14 _ 1 8 := X14'
    refine OwnOut.go (fun t k => st14 _ k) ?_
    show OwnOut p e s below 16 128 _ (T14.setTop (mkF m 111 #[.val (.int x0), .val (.int x1), .val (.int x2), .val (.int x3), .val (.ref b0)] [(.int o14), (.int o13)]))
    by_cases hc111 : o13 = o14
    · rw [if_pos hc111] at hr
      refine OwnOut.go (fun t k => XS.icmpNo X14.here hx rfl (hb hby at_111) rfl (XT.ii_ne_f hc111) k) ?_
      show OwnOut p e s below 16 128 _ (T14.setTop (mkF m 114 #[.val (.int x0), .val (.int x1), .val (.int x2), .val (.int x3), .val (.ref b0)] []))
      refine OwnOut.go (fun t k => XT.iconstV X14.here hx rfl (1 : Int32) (hb hby at_114) rfl k) ?_
      show OwnOut p e s below 16 128 _ (T14.setTop (mkF m 115 #[.val (.int x0), .val (.int x1), .val (.int x2), .val (.int x3), .val (.ref b0)] [(.int (1 : Int32))]))
      refine OwnOut.go (fun t k => XS.goto X14.here hx rfl (pc0 := 115) (pc' := 119) rfl (hb hby at_115) (by decide) (by decide) k) ?_
      show OwnOut p e s below 16 128 _ (T14.setTop (mkF m 119 #[.val (.int x0), .val (.int x1), .val (.int x2), .val (.int x3), .val (.ref b0)] [(.int (1 : Int32))]))
      cases hr
      exact outZ X14 hx hret (hb hby at_119) hlk (by decide) (by decide) ⟨rfl, N0⟩
    · rw [if_neg hc111] at hr
      refine OwnOut.go (fun t k => XS.icmpYes X14.here hx rfl (pc0 := 111) (pc' := 118) rfl (hb hby at_111) rfl (XT.ii_ne_t hc111) (by decide) (by decide) k) ?_
      show OwnOut p e s below 16 128 _ (T14.setTop (mkF m 118 #[.val (.int x0), .val (.int x1), .val (.int x2), .val (.int x3), .val (.ref b0)] []))
      refine OwnOut.go (fun t k => XT.iconstV X14.here hx rfl (0 : Int32) (hb hby at_118) rfl k) ?_
      show OwnOut p e s below 16 128 _ (T14.setTop (mkF m 119 #[.val (.int x0), .val (.int x1), .val (.int x2), .val (.int x3), .val (.ref b0)] [(.int (0 : Int32))]))
      cases hr
      exact outZ X14 hx hret (hb hby at_119) hlk (by decide) (by decide) ⟨rfl, N0⟩
def f0 (x0 : Int32) (x1 : Int32) : Option (Int32) := (if (x1 &&& (3 : Int32)) = (0 : Int32) then (f0_103 x0) else (if (x1 &&& (3 : Int32)) = (1 : Int32) then (f0_103 (x0 &&& (2097151 : Int32))) else (if (x1 &&& (3 : Int32)) = (2 : Int32) then (f0_103 (x0 &&& (65535 : Int32))) else ((ldx [(12 : Int32), (32 : Int32), (55296 : Int32), (57344 : Int32), (65534 : Int32), (65536 : Int32), (1114112 : Int32), (0 : Int32)] (((x1.toUInt32 >>> ((2 : Int32) &&& 31).toUInt32).toInt32) &&& (7 : Int32))).bind fun v12 => (f0_103 (v12 + ((x0 &&& (7 : Int32)) - (4 : Int32))))))))
set_option maxRecDepth 65536 in
set_option maxHeartbeats 40000000 in
theorem w0_0 {p : Program} {l : Launch} {e : Env} {s : State} {m : MethodId} {args : Array Value} {below : List Frame} {meth : Method} {c : Code} {Z : State} {a0 : Array Value} {h0 : Heap} {n0 : Nat} (C : Cx0 Z a0 p s m meth c) :
    ∀ (T : State) (locs : List Loc) (h1 : Heap) (x0 : Int32) (x1 : Int32) (o : Int32), f0 x0 x1 = some o → Stand p l e room_1 s m args below meth c T locs 0 0 → T.heap = h1 → Fr n0 locs → Old Z n0 h1 → Keep h0 h1 [] →  OwnOut p e s below 16 128 (Q0 Z default default h0 n0 o) (T.setTop (mkF m 0 #[.val (.int x0), .val (.int x1), .unset, .unset, .unset] [])) := by
    obtain ⟨hx, hZ, hw, hby, hml, hown, hret, hlk, hnm⟩ := C
    intro T locs h1 x0 x1 o hr X0 e0 N0 O0 K0
    rw [f0] at hr
    refine OwnOut.go (fun t k => XS.iloadN X0.here hx rfl (hb hby at_0) rfl k) ?_
    show OwnOut p e s below 16 128 _ (T.setTop (mkF m 1 #[.val (.int x0), .val (.int x1), .unset, .unset, .unset] [(.int x1)]))
    refine OwnOut.go (fun t k => XT.iconstV X0.here hx rfl (3 : Int32) (hb hby at_1) rfl k) ?_
    show OwnOut p e s below 16 128 _ (T.setTop (mkF m 2 #[.val (.int x0), .val (.int x1), .unset, .unset, .unset] [(.int (3 : Int32)), (.int x1)]))
    refine OwnOut.go (fun t k => XS.iand X0.here hx rfl (hb hby at_2) rfl k) ?_
    show OwnOut p e s below 16 128 _ (T.setTop (mkF m 3 #[.val (.int x0), .val (.int x1), .unset, .unset, .unset] [(.int (x1 &&& (3 : Int32)))]))
    refine OwnOut.go (fun t k => XS.istoreN X0.here hx rfl (hb hby at_3) rfl (l' := #[.val (.int x0), .val (.int x1), .val (.int (x1 &&& (3 : Int32))), .unset, .unset]) rfl k) ?_
    show OwnOut p e s below 16 128 _ (T.setTop (mkF m 4 #[.val (.int x0), .val (.int x1), .val (.int (x1 &&& (3 : Int32))), .unset, .unset] []))
    refine OwnOut.go (fun t k => XS.iloadN X0.here hx rfl (hb hby at_4) rfl k) ?_
    show OwnOut p e s below 16 128 _ (T.setTop (mkF m 5 #[.val (.int x0), .val (.int x1), .val (.int (x1 &&& (3 : Int32))), .unset, .unset] [(.int (x1 &&& (3 : Int32)))]))
    by_cases hc5 : (x1 &&& (3 : Int32)) = (0 : Int32)
    · rw [if_pos hc5] at hr
      refine OwnOut.go (fun t k => XS.ifNo X0.here hx rfl (hb hby at_5) rfl (XT.i0_ne_f hc5) k) ?_
      show OwnOut p e s below 16 128 _ (T.setTop (mkF m 8 #[.val (.int x0), .val (.int x1), .val (.int (x1 &&& (3 : Int32))), .unset, .unset] []))
      refine OwnOut.go (fun t k => XS.iloadN X0.here hx rfl (hb hby at_8) rfl k) ?_
      show OwnOut p e s below 16 128 _ (T.setTop (mkF m 9 #[.val (.int x0), .val (.int x1), .val (.int (x1 &&& (3 : Int32))), .unset, .unset] [(.int x0)]))
      refine OwnOut.go (fun t k => XS.istoreN X0.here hx rfl (hb hby at_9) rfl (l' := #[.val (.int x0), .val (.int x1), .val (.int (x1 &&& (3 : Int32))), .val (.int x0), .unset]) rfl k) ?_
      show OwnOut p e s below 16 128 _ (T.setTop (mkF m 10 #[.val (.int x0), .val (.int x1), .val (.int (x1 &&& (3 : Int32))), .val (.int x0), .unset] []))
      refine OwnOut.go (fun t k => XS.goto X0.here hx rfl (pc0 := 10) (pc' := 103) rfl (hb hby at_10) (by decide) (by decide) k) ?_
      show OwnOut p e s below 16 128 _ (T.setTop (mkF m 103 #[.val (.int x0), .val (.int x1), .val (.int (x1 &&& (3 : Int32))), .val (.int x0), .unset] []))
      exact w0_103 ⟨hx, hZ, hw, hby, hml, hown, hret, hlk, hnm⟩  _ _ _ x0 x1 (x1 &&& (3 : Int32)) x0 _ hr X0 e0 N0 O0 K0
    · rw [if_neg hc5] at hr
      refine OwnOut.go (fun t k => XS.ifYes X0.here hx rfl (pc0 := 5) (pc' := 13) rfl (hb hby at_5) rfl (XT.i0_ne_t hc5) (by decide) (by decide) k) ?_
      show OwnOut p e s below 16 128 _ (T.setTop (mkF m 13 #[.val (.int x0), .val (.int x1), .val (.int (x1 &&& (3 : Int32))), .unset, .unset] []))
      refine OwnOut.go (fun t k => XS.iloadN X0.here hx rfl (hb hby at_13) rfl k) ?_
      show OwnOut p e s below 16 128 _ (T.setTop (mkF m 14 #[.val (.int x0), .val (.int x1), .val (.int (x1 &&& (3 : Int32))), .unset, .unset] [(.int (x1 &&& (3 : Int32)))]))
      refine OwnOut.go (fun t k => XT.iconstV X0.here hx rfl (1 : Int32) (hb hby at_14) rfl k) ?_
      show OwnOut p e s below 16 128 _ (T.setTop (mkF m 15 #[.val (.int x0), .val (.int x1), .val (.int (x1 &&& (3 : Int32))), .unset, .unset] [(.int (1 : Int32)), (.int (x1 &&& (3 : Int32)))]))
      by_cases hc15 : (x1 &&& (3 : Int32)) = (1 : Int32)
      · rw [if_pos hc15] at hr
        refine OwnOut.go (fun t k => XS.icmpNo X0.here hx rfl (hb hby at_15) rfl (XT.ii_ne_f hc15) k) ?_
        show OwnOut p e s below 16 128 _ (T.setTop (mkF m 18 #[.val (.int x0), .val (.int x1), .val (.int (x1 &&& (3 : Int32))), .unset, .unset] []))
        refine OwnOut.go (fun t k => XS.iloadN X0.here hx rfl (hb hby at_18) rfl k) ?_
        show OwnOut p e s below 16 128 _ (T.setTop (mkF m 19 #[.val (.int x0), .val (.int x1), .val (.int (x1 &&& (3 : Int32))), .unset, .unset] [(.int x0)]))
        refine OwnOut.go (fun t k => X0.ldcInt hx hown (mvT hZ (hw _ (List.mem_of_getElem? (i := 17) rfl))) (g := (mkF m 19 #[.val (.int x0), .val (.int x1), .val (.int (x1 &&& (3 : Int32))), .unset, .unset] [(.int x0)])) rfl (hb hby at_19) _ k) ?_
        show OwnOut p e s below 16 128 _ (T.setTop (mkF m 21 #[.val (.int x0), .val (.int x1), .val (.int (x1 &&& (3 : Int32))), .unset, .unset] [(.int (2097151 : Int32)), (.int x0)]))
        refine OwnOut.go (fun t k => XS.iand X0.here hx rfl (hb hby at_21) rfl k) ?_
        show OwnOut p e s below 16 128 _ (T.setTop (mkF m 22 #[.val (.int x0), .val (.int x1), .val (.int (x1 &&& (3 : Int32))), .unset, .unset] [(.int (x0 &&& (2097151 : Int32)))]))
        refine OwnOut.go (fun t k => XS.istoreN X0.here hx rfl (hb hby at_22) rfl (l' := #[.val (.int x0), .val (.int x1), .val (.int (x1 &&& (3 : Int32))), .val (.int (x0 &&& (2097151 : Int32))), .unset]) rfl k) ?_
        show OwnOut p e s below 16 128 _ (T.setTop (mkF m 23 #[.val (.int x0), .val (.int x1), .val (.int (x1 &&& (3 : Int32))), .val (.int (x0 &&& (2097151 : Int32))), .unset] []))
        refine OwnOut.go (fun t k => XS.goto X0.here hx rfl (pc0 := 23) (pc' := 103) rfl (hb hby at_23) (by decide) (by decide) k) ?_
        show OwnOut p e s below 16 128 _ (T.setTop (mkF m 103 #[.val (.int x0), .val (.int x1), .val (.int (x1 &&& (3 : Int32))), .val (.int (x0 &&& (2097151 : Int32))), .unset] []))
        exact w0_103 ⟨hx, hZ, hw, hby, hml, hown, hret, hlk, hnm⟩  _ _ _ x0 x1 (x1 &&& (3 : Int32)) (x0 &&& (2097151 : Int32)) _ hr X0 e0 N0 O0 K0
      · rw [if_neg hc15] at hr
        refine OwnOut.go (fun t k => XS.icmpYes X0.here hx rfl (pc0 := 15) (pc' := 26) rfl (hb hby at_15) rfl (XT.ii_ne_t hc15) (by decide) (by decide) k) ?_
        show OwnOut p e s below 16 128 _ (T.setTop (mkF m 26 #[.val (.int x0), .val (.int x1), .val (.int (x1 &&& (3 : Int32))), .unset, .unset] []))
        refine OwnOut.go (fun t k => XS.iloadN X0.here hx rfl (hb hby at_26) rfl k) ?_
        show OwnOut p e s below 16 128 _ (T.setTop (mkF m 27 #[.val (.int x0), .val (.int x1), .val (.int (x1 &&& (3 : Int32))), .unset, .unset] [(.int (x1 &&& (3 : Int32)))]))
        refine OwnOut.go (fun t k => XT.iconstV X0.here hx rfl (2 : Int32) (hb hby at_27) rfl k) ?_
        show OwnOut p e s below 16 128 _ (T.setTop (mkF m 28 #[.val (.int x0), .val (.int x1), .val (.int (x1 &&& (3 : Int32))), .unset, .unset] [(.int (2 : Int32)), (.int (x1 &&& (3 : Int32)))]))
        by_cases hc28 : (x1 &&& (3 : Int32)) = (2 : Int32)
        · rw [if_pos hc28] at hr
          refine OwnOut.go (fun t k => XS.icmpNo X0.here hx rfl (hb hby at_28) rfl (XT.ii_ne_f hc28) k) ?_
          show OwnOut p e s below 16 128 _ (T.setTop (mkF m 31 #[.val (.int x0), .val (.int x1), .val (.int (x1 &&& (3 : Int32))), .unset, .unset] []))
          refine OwnOut.go (fun t k => XS.iloadN X0.here hx rfl (hb hby at_31) rfl k) ?_
          show OwnOut p e s below 16 128 _ (T.setTop (mkF m 32 #[.val (.int x0), .val (.int x1), .val (.int (x1 &&& (3 : Int32))), .unset, .unset] [(.int x0)]))
          refine OwnOut.go (fun t k => X0.ldcInt hx hown (mvT hZ (hw _ (List.mem_of_getElem? (i := 19) rfl))) (g := (mkF m 32 #[.val (.int x0), .val (.int x1), .val (.int (x1 &&& (3 : Int32))), .unset, .unset] [(.int x0)])) rfl (hb hby at_32) _ k) ?_
          show OwnOut p e s below 16 128 _ (T.setTop (mkF m 34 #[.val (.int x0), .val (.int x1), .val (.int (x1 &&& (3 : Int32))), .unset, .unset] [(.int (65535 : Int32)), (.int x0)]))
          refine OwnOut.go (fun t k => XS.iand X0.here hx rfl (hb hby at_34) rfl k) ?_
          show OwnOut p e s below 16 128 _ (T.setTop (mkF m 35 #[.val (.int x0), .val (.int x1), .val (.int (x1 &&& (3 : Int32))), .unset, .unset] [(.int (x0 &&& (65535 : Int32)))]))
          refine OwnOut.go (fun t k => XS.istoreN X0.here hx rfl (hb hby at_35) rfl (l' := #[.val (.int x0), .val (.int x1), .val (.int (x1 &&& (3 : Int32))), .val (.int (x0 &&& (65535 : Int32))), .unset]) rfl k) ?_
          show OwnOut p e s below 16 128 _ (T.setTop (mkF m 36 #[.val (.int x0), .val (.int x1), .val (.int (x1 &&& (3 : Int32))), .val (.int (x0 &&& (65535 : Int32))), .unset] []))
          refine OwnOut.go (fun t k => XS.goto X0.here hx rfl (pc0 := 36) (pc' := 103) rfl (hb hby at_36) (by decide) (by decide) k) ?_
          show OwnOut p e s below 16 128 _ (T.setTop (mkF m 103 #[.val (.int x0), .val (.int x1), .val (.int (x1 &&& (3 : Int32))), .val (.int (x0 &&& (65535 : Int32))), .unset] []))
          exact w0_103 ⟨hx, hZ, hw, hby, hml, hown, hret, hlk, hnm⟩  _ _ _ x0 x1 (x1 &&& (3 : Int32)) (x0 &&& (65535 : Int32)) _ hr X0 e0 N0 O0 K0
        · rw [if_neg hc28] at hr
          refine OwnOut.go (fun t k => XS.icmpYes X0.here hx rfl (pc0 := 28) (pc' := 39) rfl (hb hby at_28) rfl (XT.ii_ne_t hc28) (by decide) (by decide) k) ?_
          show OwnOut p e s below 16 128 _ (T.setTop (mkF m 39 #[.val (.int x0), .val (.int x1), .val (.int (x1 &&& (3 : Int32))), .unset, .unset] []))
          refine OwnOut.go (fun t k => XT.bipushV X0.here hx rfl (8 : Int32) (hb hby at_39) rfl k) ?_
          show OwnOut p e s below 16 128 _ (T.setTop (mkF m 41 #[.val (.int x0), .val (.int x1), .val (.int (x1 &&& (3 : Int32))), .unset, .unset] [(.int (8 : Int32))]))
          obtain ⟨T3, h3, X3, e3, Ex3, A_3, st3⟩ := nwA X0 hx hZ (hw _ (List.mem_of_getElem? (i := 0) rfl)) e0 (rfl : nwx (0 : Int32) 8 (8 : Int32) = some [(0 : Int32), (0 : Int32), (0 : Int32), (0 : Int32), (0 : Int32), (0 : Int32), (0 : Int32), (0 : Int32)]) (f := Value.int) rfl (g := (mkF m 41 #[.val (.int x0), .val (.int x1), .val (.int (x1 &&& (3 : Int32))), .unset, .unset] [(.int (8 : Int32))])) rfl rfl (hb hby at_41) (by decide) (by decide) (by decide)
          obtain ⟨c3, gc3⟩ : ∃ z, z = h1.size := ⟨_, rfl⟩
          rw [← gc3] at A_3 st3
          refine OwnOut.go (fun t k => st3 _ k) ?_
          have g_3 : n0 ≤ c3 := gc3 ▸ (O0.1 ▸ O0.2.1)
          have z_3 : h0.size ≤ c3 := gc3 ▸ K0.1
          have O_3 := O0.ext Ex3
          have K_3 := K0.ext Ex3
          show OwnOut p e s below 16 128 _ (T3.setTop (mkF m 43 #[.val (.int x0), .val (.int x1), .val (.int (x1 &&& (3 : Int32))), .unset, .unset] [(.ref c3)]))
          refine OwnOut.go (fun t k => XS.dup X3.here hx rfl (hb hby at_43) rfl rfl k) ?_
          show OwnOut p e s below 16 128 _ (T3.setTop (mkF m 44 #[.val (.int x0), .val (.int x1), .val (.int (x1 &&& (3 : Int32))), .unset, .unset] [(.ref c3), (.ref c3)]))
          refine OwnOut.go (fun t k => XT.iconstV X3.here hx rfl (0 : Int32) (hb hby at_44) rfl k) ?_
          show OwnOut p e s below 16 128 _ (T3.setTop (mkF m 45 #[.val (.int x0), .val (.int x1), .val (.int (x1 &&& (3 : Int32))), .unset, .unset] [(.int (0 : Int32)), (.ref c3), (.ref c3)]))
          refine OwnOut.go (fun t k => XT.bipushV X3.here hx rfl (12 : Int32) (hb hby at_45) rfl k) ?_
          show OwnOut p e s below 16 128 _ (T3.setTop (mkF m 47 #[.val (.int x0), .val (.int x1), .val (.int (x1 &&& (3 : Int32))), .unset, .unset] [(.int (12 : Int32)), (.int (0 : Int32)), (.ref c3), (.ref c3)]))
          obtain ⟨T4, h4, X4, e4, W4, A_4, st4⟩ := saI X3 hx hZ e3 A_3 (rfl : stx [(0 : Int32), (0 : Int32), (0 : Int32), (0 : Int32), (0 : Int32), (0 : Int32), (0 : Int32), (0 : Int32)] (0 : Int32) (12 : Int32) = some [(12 : Int32), (0 : Int32), (0 : Int32), (0 : Int32), (0 : Int32), (0 : Int32), (0 : Int32), (0 : Int32)]) (g := (mkF m 47 #[.val (.int x0), .val (.int x1), .val (.int (x1 &&& (3 : Int32))), .unset, .unset] [(.int (12 : Int32)), (.int (0 : Int32)), (.ref c3), (.ref c3)])) rfl rfl (hb hby at_47)
          refine OwnOut.go (fun t k => st4 _ k) ?_
          have N_4 := Fr.snoc X4 N0 g_3
          have O_4 := O_3.wr W4 g_3
          have K_4 := K_3.wr W4 (Or.inr z_3)
          show OwnOut p e s below 16 128 _ (T4.setTop (mkF m 48 #[.val (.int x0), .val (.int x1), .val (.int (x1 &&& (3 : Int32))), .unset, .unset] [(.ref c3)]))
          refine OwnOut.go (fun t k => XS.dup X4.here hx rfl (hb hby at_48) rfl rfl k) ?_
          show OwnOut p e s below 16 128 _ (T4.setTop (mkF m 49 #[.val (.int x0), .val (.int x1), .val (.int (x1 &&& (3 : Int32))), .unset, .unset] [(.ref c3), (.ref c3)]))
          refine OwnOut.go (fun t k => XT.iconstV X4.here hx rfl (1 : Int32) (hb hby at_49) rfl k) ?_
          show OwnOut p e s below 16 128 _ (T4.setTop (mkF m 50 #[.val (.int x0), .val (.int x1), .val (.int (x1 &&& (3 : Int32))), .unset, .unset] [(.int (1 : Int32)), (.ref c3), (.ref c3)]))
          refine OwnOut.go (fun t k => XT.bipushV X4.here hx rfl (32 : Int32) (hb hby at_50) rfl k) ?_
          show OwnOut p e s below 16 128 _ (T4.setTop (mkF m 52 #[.val (.int x0), .val (.int x1), .val (.int (x1 &&& (3 : Int32))), .unset, .unset] [(.int (32 : Int32)), (.int (1 : Int32)), (.ref c3), (.ref c3)]))
          obtain ⟨T5, h5, X5, e5, W5, A_5, st5⟩ := saI X4 hx hZ e4 A_4 (rfl : stx [(12 : Int32), (0 : Int32), (0 : Int32), (0 : Int32), (0 : Int32), (0 : Int32), (0 : Int32), (0 : Int32)] (1 : Int32) (32 : Int32) = some [(12 : Int32), (32 : Int32), (0 : Int32), (0 : Int32), (0 : Int32), (0 : Int32), (0 : Int32), (0 : Int32)]) (g := (mkF m 52 #[.val (.int x0), .val (.int x1), .val (.int (x1 &&& (3 : Int32))), .unset, .unset] [(.int (32 : Int32)), (.int (1 : Int32)), (.ref c3), (.ref c3)])) rfl rfl (hb hby at_52)
          refine OwnOut.go (fun t k => st5 _ k) ?_
          have N_5 := Fr.snoc X5 N_4 g_3
          have O_5 := O_4.wr W5 g_3
          have K_5 := K_4.wr W5 (Or.inr z_3)
          show OwnOut p e s below 16 128 _ (T5.setTop (mkF m 53 #[.val (.int x0), .val (.int x1), .val (.int (x1 &&& (3 : Int32))), .unset, .unset] [(.ref c3)]))
          refine OwnOut.go (fun t k => XS.dup X5.here hx rfl (hb hby at_53) rfl rfl k) ?_
          show OwnOut p e s below 16 128 _ (T5.setTop (mkF m 54 #[.val (.int x0), .val (.int x1), .val (.int (x1 &&& (3 : Int32))), .unset, .unset] [(.ref c3), (.ref c3)]))
          refine OwnOut.go (fun t k => XT.iconstV X5.here hx rfl (2 : Int32) (hb hby at_54) rfl k) ?_
          show OwnOut p e s below 16 128 _ (T5.setTop (mkF m 55 #[.val (.int x0), .val (.int x1), .val (.int (x1 &&& (3 : Int32))), .unset, .unset] [(.int (2 : Int32)), (.ref c3), (.ref c3)]))
          refine OwnOut.go (fun t k => X5.ldcInt hx hown (mvT hZ (hw _ (List.mem_of_getElem? (i := 1) rfl))) (g := (mkF m 55 #[.val (.int x0), .val (.int x1), .val (.int (x1 &&& (3 : Int32))), .unset, .unset] [(.int (2 : Int32)), (.ref c3), (.ref c3)])) rfl (hb hby at_55) _ k) ?_
          show OwnOut p e s below 16 128 _ (T5.setTop (mkF m 57 #[.val (.int x0), .val (.int x1), .val (.int (x1 &&& (3 : Int32))), .unset, .unset] [(.int (55296 : Int32)), (.int (2 : Int32)), (.ref c3), (.ref c3)]))
          obtain ⟨T6, h6, X6, e6, W6, A_6, st6⟩ := saI X5 hx hZ e5 A_5 (rfl : stx [(12 : Int32), (32 : Int32), (0 : Int32), (0 : Int32), (0 : Int32), (0 : Int32), (0 : Int32), (0 : Int32)] (2 : Int32) (55296 : Int32) = some [(12 : Int32), (32 : Int32), (55296 : Int32), (0 : Int32), (0 : Int32), (0 : Int32), (0 : Int32), (0 : Int32)]) (g := (mkF m 57 #[.val (.int x0), .val (.int x1), .val (.int (x1 &&& (3 : Int32))), .unset, .unset] [(.int (55296 : Int32)), (.int (2 : Int32)), (.ref c3), (.ref c3)])) rfl rfl (hb hby at_57)
          refine OwnOut.go (fun t k => st6 _ k) ?_
          have N_6 := Fr.snoc X6 N_5 g_3
          have O_6 := O_5.wr W6 g_3
          have K_6 := K_5.wr W6 (Or.inr z_3)
          show OwnOut p e s below 16 128 _ (T6.setTop (mkF m 58 #[.val (.int x0), .val (.int x1), .val (.int (x1 &&& (3 : Int32))), .unset, .unset] [(.ref c3)]))
          refine OwnOut.go (fun t k => XS.dup X6.here hx rfl (hb hby at_58) rfl rfl k) ?_
          show OwnOut p e s below 16 128 _ (T6.setTop (mkF m 59 #[.val (.int x0), .val (.int x1), .val (.int (x1 &&& (3 : Int32))), .unset, .unset] [(.ref c3), (.ref c3)]))
          refine OwnOut.go (fun t k => XT.iconstV X6.here hx rfl (3 : Int32) (hb hby at_59) rfl k) ?_
          show OwnOut p e s below 16 128 _ (T6.setTop (mkF m 60 #[.val (.int x0), .val (.int x1), .val (.int (x1 &&& (3 : Int32))), .unset, .unset] [(.int (3 : Int32)), (.ref c3), (.ref c3)]))
          refine OwnOut.go (fun t k => X6.ldcInt hx hown (mvT hZ (hw _ (List.mem_of_getElem? (i := 2) rfl))) (g := (mkF m 60 #[.val (.int x0), .val (.int x1), .val (.int (x1 &&& (3 : Int32))), .unset, .unset] [(.int (3 : Int32)), (.ref c3), (.ref c3)])) rfl (hb hby at_60) _ k) ?_
          show OwnOut p e s below 16 128 _ (T6.setTop (mkF m 62 #[.val (.int x0), .val (.int x1), .val (.int (x1 &&& (3 : Int32))), .unset, .unset] [(.int (57344 : Int32)), (.int (3 : Int32)), (.ref c3), (.ref c3)]))
          obtain ⟨T7, h7, X7, e7, W7, A_7, st7⟩ := saI X6 hx hZ e6 A_6 (rfl : stx [(12 : Int32), (32 : Int32), (55296 : Int32), (0 : Int32), (0 : Int32), (0 : Int32), (0 : Int32), (0 : Int32)] (3 : Int32) (57344 : Int32) = some [(12 : Int32), (32 : Int32), (55296 : Int32), (57344 : Int32), (0 : Int32), (0 : Int32), (0 : Int32), (0 : Int32)]) (g := (mkF m 62 #[.val (.int x0), .val (.int x1), .val (.int (x1 &&& (3 : Int32))), .unset, .unset] [(.int (57344 : Int32)), (.int (3 : Int32)), (.ref c3), (.ref c3)])) rfl rfl (hb hby at_62)
          refine OwnOut.go (fun t k => st7 _ k) ?_
          have N_7 := Fr.snoc X7 N_6 g_3
          have O_7 := O_6.wr W7 g_3
          have K_7 := K_6.wr W7 (Or.inr z_3)
          show OwnOut p e s below 16 128 _ (T7.setTop (mkF m 63 #[.val (.int x0), .val (.int x1), .val (.int (x1 &&& (3 : Int32))), .unset, .unset] [(.ref c3)]))
          refine OwnOut.go (fun t k => XS.dup X7.here hx rfl (hb hby at_63) rfl rfl k) ?_
          show OwnOut p e s below 16 128 _ (T7.setTop (mkF m 64 #[.val (.int x0), .val (.int x1), .val (.int (x1 &&& (3 : Int32))), .unset, .unset] [(.ref c3), (.ref c3)]))
          refine OwnOut.go (fun t k => XT.iconstV X7.here hx rfl (4 : Int32) (hb hby at_64) rfl k) ?_
          show OwnOut p e s below 16 128 _ (T7.setTop (mkF m 65 #[.val (.int x0), .val (.int x1), .val (.int (x1 &&& (3 : Int32))), .unset, .unset] [(.int (4 : Int32)), (.ref c3), (.ref c3)]))
          refine OwnOut.go (fun t k => X7.ldcInt hx hown (mvT hZ (hw _ (List.mem_of_getElem? (i := 3) rfl))) (g := (mkF m 65 #[.val (.int x0), .val (.int x1), .val (.int (x1 &&& (3 : Int32))), .unset, .unset] [(.int (4 : Int32)), (.ref c3), (.ref c3)])) rfl (hb hby at_65) _ k) ?_
          show OwnOut p e s below 16 128 _ (T7.setTop (mkF m 67 #[.val (.int x0), .val (.int x1), .val (.int (x1 &&& (3 : Int32))), .unset, .unset] [(.int (65534 : Int32)), (.int (4 : Int32)), (.ref c3), (.ref c3)]))
          obtain ⟨T8, h8, X8, e8, W8, A_8, st8⟩ := saI X7 hx hZ e7 A_7 (rfl : stx [(12 : Int32), (32 : Int32), (55296 : Int32), (57344 : Int32), (0 : Int32), (0 : Int32), (0 : Int32), (0 : Int32)] (4 : Int32) (65534 : Int32) = some [(12 : Int32), (32 : Int32), (55296 : Int32), (57344 : Int32), (65534 : Int32), (0 : Int32), (0 : Int32), (0 : Int32)]) (g := (mkF m 67 #[.val (.int x0), .val (.int x1), .val (.int (x1 &&& (3 : Int32))), .unset, .unset] [(.int (65534 : Int32)), (.int (4 : Int32)), (.ref c3), (.ref c3)])) rfl rfl (hb hby at_67)
          refine OwnOut.go (fun t k => st8 _ k) ?_
          have N_8 := Fr.snoc X8 N_7 g_3
          have O_8 := O_7.wr W8 g_3
          have K_8 := K_7.wr W8 (Or.inr z_3)
          show OwnOut p e s below 16 128 _ (T8.setTop (mkF m 68 #[.val (.int x0), .val (.int x1), .val (.int (x1 &&& (3 : Int32))), .unset, .unset] [(.ref c3)]))
          refine OwnOut.go (fun t k => XS.dup X8.here hx rfl (hb hby at_68) rfl rfl k) ?_
          show OwnOut p e s below 16 128 _ (T8.setTop (mkF m 69 #[.val (.int x0), .val (.int x1), .val (.int (x1 &&& (3 : Int32))), .unset, .unset] [(.ref c3), (.ref c3)]))
          refine OwnOut.go (fun t k => XT.iconstV X8.here hx rfl (5 : Int32) (hb hby at_69) rfl k) ?_
          show OwnOut p e s below 16 128 _ (T8.setTop (mkF m 70 #[.val (.int x0), .val (.int x1), .val (.int (x1 &&& (3 : Int32))), .unset, .unset] [(.int (5 : Int32)), (.ref c3), (.ref c3)]))
          refine OwnOut.go (fun t k => X8.ldcInt hx hown (mvT hZ (hw _ (List.mem_of_getElem? (i := 4) rfl))) (g := (mkF m 70 #[.val (.int x0), .val (.int x1), .val (.int (x1 &&& (3 : Int32))), .unset, .unset] [(.int (5 : Int32)), (.ref c3), (.ref c3)])) rfl (hb hby at_70) _ k) ?_
          show OwnOut p e s below 16 128 _ (T8.setTop (mkF m 72 #[.val (.int x0), .val (.int x1), .val (.int (x1 &&& (3 : Int32))), .unset, .unset] [(.int (65536 : Int32)), (.int (5 : Int32)), (.ref c3), (.ref c3)]))
          obtain ⟨T9, h9, X9, e9, W9, A_9, st9⟩ := saI X8 hx hZ e8 A_8 (rfl : stx [(12 : Int32), (32 : Int32), (55296 : Int32), (57344 : Int32), (65534 : Int32), (0 : Int32), (0 : Int32), (0 : Int32)] (5 : Int32) (65536 : Int32) = some [(12 : Int32), (32 : Int32), (55296 : Int32), (57344 : Int32), (65534 : Int32), (65536 : Int32), (0 : Int32), (0 : Int32)]) (g := (mkF m 72 #[.val (.int x0), .val (.int x1), .val (.int (x1 &&& (3 : Int32))), .unset, .unset] [(.int (65536 : Int32)), (.int (5 : Int32)), (.ref c3), (.ref c3)])) rfl rfl (hb hby at_72)
          refine OwnOut.go (fun t k => st9 _ k) ?_
          have N_9 := Fr.snoc X9 N_8 g_3
          have O_9 := O_8.wr W9 g_3
          have K_9 := K_8.wr W9 (Or.inr z_3)
          show OwnOut p e s below 16 128 _ (T9.setTop (mkF m 73 #[.val (.int x0), .val (.int x1), .val (.int (x1 &&& (3 : Int32))), .unset, .unset] [(.ref c3)]))
          refine OwnOut.go (fun t k => XS.dup X9.here hx rfl (hb hby at_73) rfl rfl k) ?_
          show OwnOut p e s below 16 128 _ (T9.setTop (mkF m 74 #[.val (.int x0), .val (.int x1), .val (.int (x1 &&& (3 : Int32))), .unset, .unset] [(.ref c3), (.ref c3)]))
          refine OwnOut.go (fun t k => XT.bipushV X9.here hx rfl (6 : Int32) (hb hby at_74) rfl k) ?_
          show OwnOut p e s below 16 128 _ (T9.setTop (mkF m 76 #[.val (.int x0), .val (.int x1), .val (.int (x1 &&& (3 : Int32))), .unset, .unset] [(.int (6 : Int32)), (.ref c3), (.ref c3)]))
          refine OwnOut.go (fun t k => X9.ldcInt hx hown (mvT hZ (hw _ (List.mem_of_getElem? (i := 5) rfl))) (g := (mkF m 76 #[.val (.int x0), .val (.int x1), .val (.int (x1 &&& (3 : Int32))), .unset, .unset] [(.int (6 : Int32)), (.ref c3), (.ref c3)])) rfl (hb hby at_76) _ k) ?_
          show OwnOut p e s below 16 128 _ (T9.setTop (mkF m 78 #[.val (.int x0), .val (.int x1), .val (.int (x1 &&& (3 : Int32))), .unset, .unset] [(.int (1114112 : Int32)), (.int (6 : Int32)), (.ref c3), (.ref c3)]))
          obtain ⟨T10, h10, X10, e10, W10, A_10, st10⟩ := saI X9 hx hZ e9 A_9 (rfl : stx [(12 : Int32), (32 : Int32), (55296 : Int32), (57344 : Int32), (65534 : Int32), (65536 : Int32), (0 : Int32), (0 : Int32)] (6 : Int32) (1114112 : Int32) = some [(12 : Int32), (32 : Int32), (55296 : Int32), (57344 : Int32), (65534 : Int32), (65536 : Int32), (1114112 : Int32), (0 : Int32)]) (g := (mkF m 78 #[.val (.int x0), .val (.int x1), .val (.int (x1 &&& (3 : Int32))), .unset, .unset] [(.int (1114112 : Int32)), (.int (6 : Int32)), (.ref c3), (.ref c3)])) rfl rfl (hb hby at_78)
          refine OwnOut.go (fun t k => st10 _ k) ?_
          have N_10 := Fr.snoc X10 N_9 g_3
          have O_10 := O_9.wr W10 g_3
          have K_10 := K_9.wr W10 (Or.inr z_3)
          show OwnOut p e s below 16 128 _ (T10.setTop (mkF m 79 #[.val (.int x0), .val (.int x1), .val (.int (x1 &&& (3 : Int32))), .unset, .unset] [(.ref c3)]))
          refine OwnOut.go (fun t k => XS.dup X10.here hx rfl (hb hby at_79) rfl rfl k) ?_
          show OwnOut p e s below 16 128 _ (T10.setTop (mkF m 80 #[.val (.int x0), .val (.int x1), .val (.int (x1 &&& (3 : Int32))), .unset, .unset] [(.ref c3), (.ref c3)]))
          refine OwnOut.go (fun t k => XT.bipushV X10.here hx rfl (7 : Int32) (hb hby at_80) rfl k) ?_
          show OwnOut p e s below 16 128 _ (T10.setTop (mkF m 82 #[.val (.int x0), .val (.int x1), .val (.int (x1 &&& (3 : Int32))), .unset, .unset] [(.int (7 : Int32)), (.ref c3), (.ref c3)]))
          refine OwnOut.go (fun t k => XT.iconstV X10.here hx rfl (0 : Int32) (hb hby at_82) rfl k) ?_
          show OwnOut p e s below 16 128 _ (T10.setTop (mkF m 83 #[.val (.int x0), .val (.int x1), .val (.int (x1 &&& (3 : Int32))), .unset, .unset] [(.int (0 : Int32)), (.int (7 : Int32)), (.ref c3), (.ref c3)]))
          obtain ⟨T11, h11, X11, e11, W11, A_11, st11⟩ := saI X10 hx hZ e10 A_10 (rfl : stx [(12 : Int32), (32 : Int32), (55296 : Int32), (57344 : Int32), (65534 : Int32), (65536 : Int32), (1114112 : Int32), (0 : Int32)] (7 : Int32) (0 : Int32) = some [(12 : Int32), (32 : Int32), (55296 : Int32), (57344 : Int32), (65534 : Int32), (65536 : Int32), (1114112 : Int32), (0 : Int32)]) (g := (mkF m 83 #[.val (.int x0), .val (.int x1), .val (.int (x1 &&& (3 : Int32))), .unset, .unset] [(.int (0 : Int32)), (.int (7 : Int32)), (.ref c3), (.ref c3)])) rfl rfl (hb hby at_83)
          refine OwnOut.go (fun t k => st11 _ k) ?_
          have N_11 := Fr.snoc X11 N_10 g_3
          have O_11 := O_10.wr W11 g_3
          have K_11 := K_10.wr W11 (Or.inr z_3)
          show OwnOut p e s below 16 128 _ (T11.setTop (mkF m 84 #[.val (.int x0), .val (.int x1), .val (.int (x1 &&& (3 : Int32))), .unset, .unset] [(.ref c3)]))
          refine OwnOut.go (fun t k => XS.astore X11.here hx rfl (hb hby at_84) rfl rfl (l' := #[.val (.int x0), .val (.int x1), .val (.int (x1 &&& (3 : Int32))), .unset, .val (.ref c3)]) rfl k) ?_
          show OwnOut p e s below 16 128 _ (T11.setTop (mkF m 86 #[.val (.int x0), .val (.int x1), .val (.int (x1 &&& (3 : Int32))), .unset, .val (.ref c3)] []))
          refine OwnOut.go (fun t k => XS.aload X11.here hx rfl (hb hby at_86) rfl rfl k) ?_
          show OwnOut p e s below 16 128 _ (T11.setTop (mkF m 88 #[.val (.int x0), .val (.int x1), .val (.int (x1 &&& (3 : Int32))), .unset, .val (.ref c3)] [(.ref c3)]))
          refine OwnOut.go (fun t k => XS.iloadN X11.here hx rfl (hb hby at_88) rfl k) ?_
          show OwnOut p e s below 16 128 _ (T11.setTop (mkF m 89 #[.val (.int x0), .val (.int x1), .val (.int (x1 &&& (3 : Int32))), .unset, .val (.ref c3)] [(.int x1), (.ref c3)]))
          refine OwnOut.go (fun t k => XT.iconstV X11.here hx rfl (2 : Int32) (hb hby at_89) rfl k) ?_
          show OwnOut p e s below 16 128 _ (T11.setTop (mkF m 90 #[.val (.int x0), .val (.int x1), .val (.int (x1 &&& (3 : Int32))), .unset, .val (.ref c3)] [(.int (2 : Int32)), (.int x1), (.ref c3)]))
          refine OwnOut.go (fun t k => XS.iushr X11.here hx rfl (hb hby at_90) rfl k) ?_
          show OwnOut p e s below 16 128 _ (T11.setTop (mkF m 91 #[.val (.int x0), .val (.int x1), .val (.int (x1 &&& (3 : Int32))), .unset, .val (.ref c3)] [(.int ((x1.toUInt32 >>> ((2 : Int32) &&& 31).toUInt32).toInt32)), (.ref c3)]))
          refine OwnOut.go (fun t k => XT.bipushV X11.here hx rfl (7 : Int32) (hb hby at_91) rfl k) ?_
          show OwnOut p e s below 16 128 _ (T11.setTop (mkF m 93 #[.val (.int x0), .val (.int x1), .val (.int (x1 &&& (3 : Int32))), .unset, .val (.ref c3)] [(.int (7 : Int32)), (.int ((x1.toUInt32 >>> ((2 : Int32) &&& 31).toUInt32).toInt32)), (.ref c3)]))
          refine OwnOut.go (fun t k => XS.iand X11.here hx rfl (hb hby at_93) rfl k) ?_
          show OwnOut p e s below 16 128 _ (T11.setTop (mkF m 94 #[.val (.int x0), .val (.int x1), .val (.int (x1 &&& (3 : Int32))), .unset, .val (.ref c3)] [(.int (((x1.toUInt32 >>> ((2 : Int32) &&& 31).toUInt32).toInt32) &&& (7 : Int32))), (.ref c3)]))
          obtain ⟨v12, hv12, hr⟩ := Option.bind_eq_some_iff.mp hr
          refine OwnOut.go (fun t k => ldI X11 hx hZ e11 A_11 hv12 (g := (mkF m 94 #[.val (.int x0), .val (.int x1), .val (.int (x1 &&& (3 : Int32))), .unset, .val (.ref c3)] [(.int (((x1.toUInt32 >>> ((2 : Int32) &&& 31).toUInt32).toInt32) &&& (7 : Int32))), (.ref c3)])) rfl rfl (hb hby at_94) t k) ?_
          show OwnOut p e s below 16 128 _ (T11.setTop (mkF m 95 #[.val (.int x0), .val (.int x1), .val (.int (x1 &&& (3 : Int32))), .unset, .val (.ref c3)] [(.int v12)]))
          refine OwnOut.go (fun t k => XS.iloadN X11.here hx rfl (hb hby at_95) rfl k) ?_
          show OwnOut p e s below 16 128 _ (T11.setTop (mkF m 96 #[.val (.int x0), .val (.int x1), .val (.int (x1 &&& (3 : Int32))), .unset, .val (.ref c3)] [(.int x0), (.int v12)]))
          refine OwnOut.go (fun t k => XT.bipushV X11.here hx rfl (7 : Int32) (hb hby at_96) rfl k) ?_
          show OwnOut p e s below 16 128 _ (T11.setTop (mkF m 98 #[.val (.int x0), .val (.int x1), .val (.int (x1 &&& (3 : Int32))), .unset, .val (.ref c3)] [(.int (7 : Int32)), (.int x0), (.int v12)]))
          refine OwnOut.go (fun t k => XS.iand X11.here hx rfl (hb hby at_98) rfl k) ?_
          show OwnOut p e s below 16 128 _ (T11.setTop (mkF m 99 #[.val (.int x0), .val (.int x1), .val (.int (x1 &&& (3 : Int32))), .unset, .val (.ref c3)] [(.int (x0 &&& (7 : Int32))), (.int v12)]))
          refine OwnOut.go (fun t k => XT.iconstV X11.here hx rfl (4 : Int32) (hb hby at_99) rfl k) ?_
          show OwnOut p e s below 16 128 _ (T11.setTop (mkF m 100 #[.val (.int x0), .val (.int x1), .val (.int (x1 &&& (3 : Int32))), .unset, .val (.ref c3)] [(.int (4 : Int32)), (.int (x0 &&& (7 : Int32))), (.int v12)]))
          refine OwnOut.go (fun t k => XS.isub X11.here hx rfl (hb hby at_100) rfl k) ?_
          show OwnOut p e s below 16 128 _ (T11.setTop (mkF m 101 #[.val (.int x0), .val (.int x1), .val (.int (x1 &&& (3 : Int32))), .unset, .val (.ref c3)] [(.int ((x0 &&& (7 : Int32)) - (4 : Int32))), (.int v12)]))
          refine OwnOut.go (fun t k => XS.iadd X11.here hx rfl (hb hby at_101) rfl k) ?_
          show OwnOut p e s below 16 128 _ (T11.setTop (mkF m 102 #[.val (.int x0), .val (.int x1), .val (.int (x1 &&& (3 : Int32))), .unset, .val (.ref c3)] [(.int (v12 + ((x0 &&& (7 : Int32)) - (4 : Int32))))]))
          refine OwnOut.go (fun t k => XS.istoreN X11.here hx rfl (hb hby at_102) rfl (l' := #[.val (.int x0), .val (.int x1), .val (.int (x1 &&& (3 : Int32))), .val (.int (v12 + ((x0 &&& (7 : Int32)) - (4 : Int32)))), .val (.ref c3)]) rfl k) ?_
          show OwnOut p e s below 16 128 _ (T11.setTop (mkF m 103 #[.val (.int x0), .val (.int x1), .val (.int (x1 &&& (3 : Int32))), .val (.int (v12 + ((x0 &&& (7 : Int32)) - (4 : Int32)))), .val (.ref c3)] []))
          exact w0_103a ⟨hx, hZ, hw, hby, hml, hown, hret, hlk, hnm⟩  _ _ _ x0 x1 (x1 &&& (3 : Int32)) (v12 + ((x0 &&& (7 : Int32)) - (4 : Int32))) c3 [(12 : Int32), (32 : Int32), (55296 : Int32), (57344 : Int32), (65534 : Int32), (65536 : Int32), (1114112 : Int32), (0 : Int32)] _ hr X11 e11 N_11 O_11 K_11 A_11 g_3 z_3
set_option maxRecDepth 65536 in
set_option maxHeartbeats 40000000 in
theorem rm0 (l : Launch) (Z : State) (a0 : Array Value) (hw : ∀ d ∈ tables_1, d.before a0 Z = true) (ws : List Jvm.Cond) (x0 : Int32) (x1 : Int32) (h0 : Heap) (n0 : Nat) (o : Int32) (hr : f0 x0 x1 = some o) (O0 : Old Z n0 h0) :
    MetFree l x (head1 (Jvm.Cond.code x code maxLocals ret :: ws) room_1) (fun a U => a = #[(.int x0), (.int x1)] ∧ Z.Warmed39 U.vm ∧ U.heap = h0) (fun _ _ _ _ _ => True) (fun _ U o' U' => ∃ v L, o' = .returned v ∧ Q0 Z x0 x1 h0 n0 o v U'.heap L ∧ FrameEnd U o' U' L 16 128) := by
  refine MetFree.of_bodySF (plainFor_of_name pn0) hisR ?_
  intro p e s m args below meth c s₁ Bd hml0 hP hK
  obtain ⟨rfl, hZ, hh⟩ := hP
  have X0 : Stand p l e room_1 s m #[(.int x0), (.int x1)] below meth c s₁ [] 0 0 := Stand.of_body Bd
  have e0 : s₁.heap = h0 := by rw [← hh, Bd.state]; rfl
  exact OwnOut.at (ef0 m x0 x1) (w0_0 ⟨Bd.exec, hZ, hw, Bd.bytes, hml0, findClass_of_methodNamed Bd.named, Bd.returns, Bd.notSynchronized, (name_of_methodNamed Bd.named Bd.method).1⟩ _ _ _ x0 x1 o hr X0 e0 (Fr.nil n0) O0 (Keep.refl _ _) )
theorem own_f1 (c : Int32) : f1 c = some (if c.toInt = 9 ∨ c.toInt = 10 ∨ c.toInt = 13 ∨ (32 ≤ c.toInt ∧ c.toInt ≤ 55295) ∨ (57344 ≤ c.toInt ∧ c.toInt ≤ 65533) ∨ (65536 ≤ c.toInt ∧ c.toInt ≤ 1114111) then 1 else 0) := by
  simp only [f1, f1_30, f1_42, Int32.lt_iff_toInt_lt, ← Int32.toInt_inj, Int32.reduceToInt]
  generalize c.toInt = n
  repeat' split
  all_goals first | rfl | (exfalso; omega)
theorem own_f2 (c : Int32) : f2 c = some (if c.toInt = 9 ∨ c.toInt = 10 ∨ c.toInt = 13 ∨ (32 ≤ c.toInt ∧ c.toInt ≤ 55295) ∨ (57344 ≤ c.toInt ∧ c.toInt ≤ 65533) ∨ (65536 ≤ c.toInt ∧ c.toInt ≤ 1114111) then 1 else 0) := by
  simp only [f2, f2_56, Int32.lt_iff_toInt_lt, ← Int32.toInt_inj, Int32.reduceToInt]
  generalize c.toInt = n
  repeat' split
  all_goals first | rfl | (exfalso; omega)
theorem own_key (c : Int32) : f0_103 c = some 1 := by
  simp only [f0_103, own_f1, own_f2, Option.bind_some, if_true]
theorem own_ld (j : Int32) : ∃ v, ldx [(12 : Int32), (32 : Int32), (55296 : Int32), (57344 : Int32), (65534 : Int32), (65536 : Int32), (1114112 : Int32), (0 : Int32)] (j &&& 7) = some v := by
  have h := c_and j 7 (by decide)
  have h2 : (7 : Int32).toInt = 7 := by decide
  unfold ldx
  rw [if_neg (by rw [Int32.lt_iff_toInt_lt]; have : (0 : Int32).toInt = 0 := by decide
                 omega)]
  exact ⟨_, List.getElem?_eq_getElem (by show (j &&& 7).toInt.toNat < 8; omega)⟩
theorem law_ok (a b : Int32) : f0 a b = some 1 := by
  unfold f0
  split
  · exact own_key _
  split
  · exact own_key _
  split
  · exact own_key _
  · obtain ⟨v, hv⟩ := own_ld ((b.toUInt32 >>> ((2 : Int32) &&& 31).toUInt32).toInt32)
    rw [hv]; exact own_key _
set_option maxRecDepth 65536 in
set_option maxHeartbeats 40000000 in
theorem comes_1 {Post : Tables → Env → Array Value → State → Outcome → State → Prop} (hpost : ∀ tb e args s v u, (limb_1_1.after args s (.returned v) u = true ∧ limb_1_2.after args s (.returned v) u = true ∧ True) → FrameEnd s (.returned v) u (Jvm.fieldLocs frame_1_writes args s ++ Jvm.arrayLocs frame_1_arrays args s ++ Jvm.staticLocs frame_1_statics s) 16 128 → Post tb e args s (.returned v) u) :
    ArmFor flags0 classFile x code maxLocals ret World_1 tables_1 room_1 Calls_1 rest_1 Pre_1 Post := by
  intro l hfl _ _ p e ha hc hk s m args below hf hA hF happ hP
  obtain ⟨hcalls, hrest, hpre⟩ := hP
  obtain ⟨-, -, -, hnamed, -, -, -, hat⟩ := (Spec.applies_iff hf).mp happ
  obtain ⟨hg, hn⟩ := and_e (Cond.before_iff.mp (show (Jvm.Cond.and given_1 narrow_1).before args s = true from hpre))
  obtain ⟨g1, g2⟩ := and_e hg
  obtain ⟨g3, g4⟩ := and_e g2
  obtain ⟨w0, w1, rfl⟩ : ∃ w0 w1 : Value, args = #[w0, w1] := by
    have hs : args.size = 2 := by simpa [Cond.value, given_1] using g1
    obtain ⟨L⟩ := args
    match L, hs with
    | [w0, w1], _ => exact ⟨w0, w1, rfl⟩
  have hw := fun d (hd : d ∈ tables_1) => atoms_spec (ws := Jvm.Cond.code x code maxLocals ret :: tables_1) hat d (List.mem_cons_of_mem _ hd)
  obtain ⟨i0, ei0⟩ := is_v g3
  obtain rfl : w0 = (.int i0) := Option.some.inj ei0
  obtain ⟨i1, ei1⟩ := is_v g4
  obtain rfl : w1 = (.int i1) := Option.some.inj ei1
  obtain ⟨n, o, h1, h2, h3, _, L, rfl, ⟨rfl, N⟩, hq⟩ := rm0 l s _ hw tables_1 i0 i1 s.heap s.heap.size 1 (law_ok i0 i1) (Old.start s) p e ha hc hk s m _ below hf ((Spec.applies_iff_loose hf).mp happ).1 ⟨rfl, State.Warmed39.refl s, rfl⟩ trivial
  have hv : (1 : Int32) = 1 := rfl
  refine ⟨n, _, h1, h2, h3, hpost _ _ _ _ _ _ ⟨Cond.after_iff.mpr rfl, Cond.after_iff.mpr (eq_i res_at (Term.int_eval (1)) (congrArg Value.int hv)), trivial⟩ ⟨hq.1, hq.2.1, (hq.2.2.sift fun y hy => Or.inr (N y hy)).mono (by decide) (by decide)⟩⟩
theorem main_1_1 : Claimed_1_1 := comes_1 fun _ _ _ _ _ _ h hF => ⟨h.1, hF⟩
theorem main_1_2 : Claimed_1_2 := comes_1 fun _ _ _ _ _ _ h hF => ⟨h.2.1, hF⟩
end Jvm.Pilot.@@N@@
namespace Jvm.Pilot.@@N@@
open Jvm Jvm.ClassFile Sem Op Lib Jvm.Free Jvm.Stand Jvm.Pilot.@@N@@.Jvm.D
/-! MADE BY PROGRAM (witnessworld.py) out of the Statement's table words and the real class files: 9 classes; the members and pool entries that the words name. The judged class is class 1, her method 2. -/
namespace start1
open Jvm.ClassFile
def u (s : String) : CpInfo := .utf8 (stringToUtf16 s)
/-- a pool by its gaps: so many unusable entries, then the entry; so many at the end -/
def gap : Nat → List CpInfo → List CpInfo
  | 0, r => r
  | n + 1, r => .unusable :: gap n r
def poolList (es : List (Nat × CpInfo)) (last : Nat) : List CpInfo := es.foldr (fun e r => gap e.1 (e.2 :: r)) (gap last [])
def pool (es : List (Nat × CpInfo)) (last : Nat) : Array CpInfo := ⟨poolList es last⟩
def fileOf (pool : Array CpInfo) (this : Nat) (attrs : Array Attribute := #[]) (ms : Array MethodInfo := #[]) (fl : Nat := 33) (sup : Nat := 0) (ifs : Array Nat := #[]) (fds : Array FieldInfo := #[]) : ClassFile where
  minorVersion := 0
  majorVersion := 65
  constantPool := pool
  accessFlags := fl
  thisClass := this
  superClass := sup
  interfaces := ifs
  fields := fds
  methods := ms
  attributes := attrs
def plain (name : String) (sup : Option ClassId) : Class where
  name := name
  kind := .ordinary
  loader := none
  accessFlags := 33
  super := sup
  interfaces := #[]
  cf := none
  fields := #[]
  methods := #[]
  instanceTypes := #[]
  staticTypes := #[]
  resolved := #[]
  callSites := []
  init := .initialized
  statics := none
  mirror := none

def pool0 : Array CpInfo := pool [(5, u "<init>"), (0, u "()V"), (1, .class_ 10), (1, u "java/lang/Object")] 113

def k0m0 : Method := { name := "<init>", desc := "()V", sig := { parameters := [], returnType := none }, accessFlags := 1, code := none }
/-- java/lang/Object -/
def k0 : Class := { plain "java/lang/Object" none with
  accessFlags := 33
  interfaces := #[]
  cf := some (fileOf pool0 8 #[] #[{ accessFlags := 1, nameIndex := 5, descriptorIndex := 6, attributes := #[] }] 33 0 #[] #[])
  fields := #[]
  methods := #[k0m0]
  instanceTypes := #[]
  staticTypes := #[]
  resolved := Array.replicate 124 none
  statics := none }

def pool1 : Array CpInfo := pool [(2, .class_ 4), (1, u "java/lang/Object"), (0, u "<init>"), (0, u "()V"), (0, .integer 1114111), (0, .integer 55296), (0, .integer 57343), (0, .integer 65534), (0, .integer 65535), (0, .integer 2097151), (0, .integer 57344), (0, .integer 65536), (0, .integer 1114112), (0, .methodref 17 18), (0, .class_ 19), (0, .nameAndType 20 21), (0, u "com/example/libnodeset/libnodeset/tree/XmlCharacters"), (0, u "isChar"), (0, u "(I)Z"), (0, .methodref 23 24), (0, .class_ 25), (0, .nameAndType 26 21), (0, u "com/example/libnodeset/libnodeset/tree/XmlCharactersIsCharPinLaw"), (0, u "expected"), (3, u "law"), (0, u "(II)Z")] 2

def k1m0 : Method := { name := "<init>", desc := "()V", sig := { parameters := [], returnType := none }, accessFlags := 2, code := none }
def k1c1 : Code := { maxStack := 2, maxLocals := 1, code := method_2_code, exceptionTable := #[], attributes := #[] }
def k1m1 : Method := { name := "expected", desc := "(I)Z", sig := { parameters := [.int], returnType := some .boolean }, accessFlags := 10, code := some k1c1 }
def k1c2 : Code := { maxStack := 4, maxLocals := 5, code := code, exceptionTable := #[], attributes := #[] }
def k1m2 : Method := { name := "law", desc := "(II)Z", sig := { parameters := [.int, .int], returnType := some .boolean }, accessFlags := 9, code := some k1c2 }
/-- com/example/libnodeset/libnodeset/tree/XmlCharactersIsCharPinLaw -/
def k1 : Class := { plain "com/example/libnodeset/libnodeset/tree/XmlCharactersIsCharPinLaw" (some 0) with
  accessFlags := 49
  interfaces := #[]
  cf := some (fileOf pool1 23 #[] #[{ accessFlags := 2, nameIndex := 5, descriptorIndex := 6, attributes := #[] }, { accessFlags := 10, nameIndex := 26, descriptorIndex := 21, attributes := #[] }, { accessFlags := 9, nameIndex := 30, descriptorIndex := 31, attributes := #[] }] 49 2 #[] #[])
  fields := #[]
  methods := #[k1m0, k1m1, k1m2]
  instanceTypes := #[]
  staticTypes := #[]
  resolved := Array.replicate 34 none
  statics := none }

def pool2 : Array CpInfo := pool [(2, .class_ 4), (1, u "java/lang/Object"), (0, u "<init>"), (0, u "()V"), (0, .integer 55295), (0, .integer 57344), (0, .integer 65533), (0, .integer 65536), (0, .integer 1114111), (20, .class_ 34), (1, u "com/example/libnodeset/libnodeset/tree/XmlCharacters"), (0, u "isChar"), (0, u "(I)Z")] 18

def k2m0 : Method := { name := "<init>", desc := "()V", sig := { parameters := [], returnType := none }, accessFlags := 2, code := none }
def k2c1 : Code := { maxStack := 2, maxLocals := 1, code := prog_200_method_2_code, exceptionTable := #[], attributes := #[] }
def k2m1 : Method := { name := "isChar", desc := "(I)Z", sig := { parameters := [.int], returnType := some .boolean }, accessFlags := 9, code := some k2c1 }
/-- com/example/libnodeset/libnodeset/tree/XmlCharacters -/
def k2 : Class := { plain "com/example/libnodeset/libnodeset/tree/XmlCharacters" (some 0) with
  accessFlags := 33
  interfaces := #[]
  cf := some (fileOf pool2 32 #[] #[{ accessFlags := 2, nameIndex := 5, descriptorIndex := 6, attributes := #[] }, { accessFlags := 9, nameIndex := 35, descriptorIndex := 36, attributes := #[] }] 33 2 #[] #[])
  fields := #[]
  methods := #[k2m0, k2m1]
  instanceTypes := #[]
  staticTypes := #[]
  resolved := Array.replicate 55 none
  statics := none }

def pool3 : Array CpInfo := pool [(1, u "java/lang/Cloneable"), (0, .class_ 1), (0, u "java/lang/Object"), (0, .class_ 3)] 3

/-- java/lang/Cloneable -/
def k3 : Class := { plain "java/lang/Cloneable" (some 0) with
  accessFlags := 1537
  interfaces := #[]
  cf := some (fileOf pool3 2 #[] #[] 1537 4 #[] #[])
  fields := #[]
  methods := #[]
  instanceTypes := #[]
  staticTypes := #[]
  resolved := Array.replicate 8 none
  statics := none }

def pool4 : Array CpInfo := pool [(1, u "java/io/Serializable"), (0, .class_ 1), (0, u "java/lang/Object"), (0, .class_ 3)] 3

/-- java/io/Serializable -/
def k4 : Class := { plain "java/io/Serializable" (some 0) with
  accessFlags := 1537
  interfaces := #[]
  cf := some (fileOf pool4 2 #[] #[] 1537 4 #[] #[])
  fields := #[]
  methods := #[]
  instanceTypes := #[]
  staticTypes := #[]
  resolved := Array.replicate 8 none
  statics := none }

/-- the primitive byte -/
def k5 : Class := { plain "byte" none with kind := .primitive 'B', accessFlags := 0x411 }
/-- [B -/
def k6 : Class := { plain "[B" (some 0) with kind := .array 5 .byte, interfaces := #[3, 4], accessFlags := 1041 }

/-- the primitive int -/
def k7 : Class := { plain "int" none with kind := .primitive 'I', accessFlags := 0x411 }
/-- [I -/
def k8 : Class := { plain "[I" (some 0) with kind := .array 7 .int, interfaces := #[3, 4], accessFlags := 1041 }

def heap : Heap := #[]
def classes : Array Class := #[k0, k1, k2, k3, k4, k5, k6, k7, k8]
def interned : List (Array UInt16 × Addr) := []
def slotsUsed : Nat := 0
def theMethod : MethodId := ⟨1, 2⟩
def args0 : Array Value := #[.int 5, .int 7]
def aboutOver (below : List Frame) : State where
  vm := { classes := classes, interned := interned.toArray }
  heap := heap
  slotsUsed := slotsUsed
  threads := #[{ frames := .invoking theMethod args0 :: below }]
def below0 : List Frame := [.native { method := ⟨0, 0⟩, args := #[] }]
def about1 : State := aboutOver below0
def p0 : Program := .bare "" "" ""
def e0 : Env := launch0.env 0 0 0
theorem w_frames : about1.frames = Frame.invoking theMethod args0 :: below0 := rfl
set_option maxRecDepth 65536 in
theorem w_args : argsFit about1.vm theMethod args0 = true := by decide +kernel
set_option maxRecDepth 65536 in
theorem w_heap : heapFits about1 = true := by decide +kernel
set_option maxRecDepth 65536 in
theorem w_runnable : about1.curStatus? = some .runnable := by decide +kernel
set_option maxRecDepth 65536 in
theorem w_alone : about1.alone = true := by decide +kernel
set_option maxRecDepth 65536 in
theorem w_named : about1.methodNamed? x = some theMethod := by decide +kernel
set_option maxRecDepth 65536 in
theorem w_hears : about1.hears theMethod below0 = true := by decide +kernel
set_option maxRecDepth 65536 in
theorem w_ripe : about1.ripe theMethod args0 below0 = true := by decide +kernel
theorem w_running : about1.status = .running := rfl
set_option maxRecDepth 65536 in
theorem w_room : about1.hasRoom e0.platform room_1 = true :=
  launch0.hasRoom_least _ room_1 (by decide +kernel) (by decide +kernel) (by decide +kernel) (by decide +kernel) (by decide +kernel) (by decide +kernel)
theorem allAtoms_all (ts : List Jvm.Cond) (a : Array Jvm.Value) (st : Jvm.State) : (allAtoms ts).before a st = ts.all (fun c => c.before a st) := by
  induction ts with
  | nil => rfl
  | cons c t ih =>
    show (Jvm.Cond.and c (allAtoms t)).before a st = _
    rw [Jvm.Cond.before_and, ih, List.all_cons]
def words1 : List Jvm.Cond := Jvm.Cond.code x code maxLocals ret :: tables_1
/-- a 'code' word, met by the world's own term for the bytes: nothing is compared byte by byte -/
theorem code_word {y : MethodName} {bytes : ByteArray} {mx : Nat} {rt : Option FieldType} {a : Array Value} {s : State} {m : MethodId} {meth : Method} {c : Code} (h1 : s.methodNamed? y = some m) (h2 : s.vm.method? m = some meth) (h3 : meth.code = some c) (h4 : c.code = bytes)
    (h5 : (c.maxLocals == mx && c.exceptionTable.isEmpty && decide (c.maxStack ≤ mostOperands) && decide (meth.sig.returnType = rt) && !meth.locks && decide (parseMethodDescriptor y.desc = some meth.sig)) = true) : (Jvm.Cond.code y bytes mx rt).before a s = true := by
  simp only [Bool.and_eq_true, beq_iff_eq, Bool.not_eq_true', decide_eq_true_eq] at h5
  obtain ⟨⟨⟨⟨⟨g1, g2⟩, g3⟩, g4⟩, g5⟩, g6⟩ := h5
  simp [Cond.before, Cond.holds, Cond.value, h1, h2, h3, h4, g1, g2, g3, g4, g5, g6]
def isCode : Jvm.Cond → Bool
  | .code _ _ _ _ => true
  | _ => false
theorem all_split {L : List Jvm.Cond} {P : Jvm.Cond → Bool} (h1 : L.all (fun c => isCode c || P c) = true) (h2 : ∀ c ∈ L.filter isCode, P c = true) : L.all P = true := by
  refine List.all_eq_true.mpr fun c hc => ?_
  have h := List.all_eq_true.mp h1 c hc
  rcases Bool.eq_false_or_eq_true (isCode c) with hi | hi
  · exact h2 c (List.mem_filter.mpr ⟨hc, hi⟩)
  · simpa [hi] using h
set_option maxRecDepth 65536 in
theorem w_c0 : (Jvm.Cond.code x code maxLocals ret).before args0 about1 = true := code_word (m := ⟨1, 2⟩) (meth := k1m2) (c := k1c2) (by decide +kernel) rfl rfl rfl (by decide +kernel)
set_option maxRecDepth 65536 in
theorem w_c1 : (Jvm.Cond.code ({ cls := "com/example/libnodeset/libnodeset/tree/XmlCharacters", name := "isChar", desc := "(I)Z" } : Jvm.MethodName) prog_200_method_2_code (1 : Nat) (Option.some Jvm.ClassFile.FieldType.boolean)).before args0 about1 = true := code_word (m := ⟨2, 1⟩) (meth := k2m1) (c := k2c1) (by decide +kernel) rfl rfl rfl (by decide +kernel)
set_option maxRecDepth 65536 in
theorem w_c2 : (Jvm.Cond.code ({ cls := "com/example/libnodeset/libnodeset/tree/XmlCharactersIsCharPinLaw", name := "expected", desc := "(I)Z" } : Jvm.MethodName) method_2_code (1 : Nat) (Option.some Jvm.ClassFile.FieldType.boolean)).before args0 about1 = true := code_word (m := ⟨1, 1⟩) (meth := k1m1) (c := k1c1) (by decide +kernel) rfl rfl rfl (by decide +kernel)
def codes1 : List Jvm.Cond := [Jvm.Cond.code x code maxLocals ret, Jvm.Cond.code ({ cls := "com/example/libnodeset/libnodeset/tree/XmlCharacters", name := "isChar", desc := "(I)Z" } : Jvm.MethodName) prog_200_method_2_code (1 : Nat) (Option.some Jvm.ClassFile.FieldType.boolean), Jvm.Cond.code ({ cls := "com/example/libnodeset/libnodeset/tree/XmlCharactersIsCharPinLaw", name := "expected", desc := "(I)Z" } : Jvm.MethodName) method_2_code (1 : Nat) (Option.some Jvm.ClassFile.FieldType.boolean)]
set_option maxRecDepth 65536 in
theorem codes_eq : words1.filter isCode = codes1 := rfl
theorem w_codes : ∀ c ∈ words1.filter isCode, c.before args0 about1 = true := by
  rw [codes_eq]
  intro c hc
  simp only [codes1, List.mem_cons, List.not_mem_nil, or_false] at hc
  rcases hc with rfl | rfl | rfl
  · exact w_c0
  · exact w_c1
  · exact w_c2
set_option maxRecDepth 65536 in
theorem w_t1 : words1.all (fun c => isCode c || c.before args0 about1) = true := by decide +kernel
theorem w_tables : (allAtoms (Jvm.Cond.code x code maxLocals ret :: tables_1)).before args0 about1 = true := by
  rw [allAtoms_all]
  show words1.all (fun c => c.before args0 about1) = true
  refine all_split ?_ w_codes
  rw [w_t1]
set_option maxRecDepth 65536 in
theorem w_case : (Jvm.Cond.and given_1 narrow_1).before args0 about1 = true := by decide +kernel
theorem w_applies : (headSpec (Jvm.Cond.code x code maxLocals ret :: tables_1) room_1).applies x e0.platform about1 = true :=
  (Spec.applies_iff w_frames).mpr ⟨w_running, w_runnable, w_alone, w_named, w_hears, w_ripe, w_room, w_tables⟩
theorem atStart : AtStart classFile x code maxLocals ret World_1 tables_1 room_1 Calls_1 rest_1 Pre_1 launch0 p0 e0 about1 theMethod args0 below0 :=
  ⟨lists_1, trivial, launch0.admits_env _ _ _, launch0.least_env, fairChoices_fair.cas, fairChoices_fair.clock, w_frames, w_args, w_heap, w_applies, trivial, trivial, w_case⟩
end start1
theorem witness_1 : WitnessClaimed_1 := ⟨start1.p0, start1.e0, start1.about1, start1.theMethod, start1.args0, start1.below0, start1.atStart⟩
end Jvm.Pilot.@@N@@
